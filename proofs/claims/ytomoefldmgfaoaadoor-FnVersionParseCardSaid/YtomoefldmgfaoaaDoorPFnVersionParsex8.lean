/- Functions of the program as plain Lean functions, and that the machine's calls do what these say: written for this claim by wip/myprint.py over the kit's print.py. -/
import Derived.Test.YtomoefldmgfaoaaDoorPFnVersionParsex0
import Derived.Test.YtomoefldmgfaoaaDoorPFnVersionParsex2
import Derived.Test.YtomoefldmgfaoaaDoorPFnVersionParsex3
import Derived.Test.YtomoefldmgfaoaaDoorPFnVersionParsex4
import Derived.Test.YtomoefldmgfaoaaDoorPFnVersionParsex6
import Derived.Test.YtomoefldmgfaoaaDoorPFnVersionParsex7
namespace Go.Proofs.YtomoefldmgfaoaaDoor.PFnVersionParse
open Go.RowKit Go.Proofs.YtomoefldmgfaoaaDoorW.PrintWords Go.Proofs.YtomoefldmgfaoaaDoorW.PrintLast Go.Proofs.YtomoefldmgfaoaaDoorW.PrintMore
attribute [local go_sem] max2_int min2_int max_two min_two max_three min_three max_four min_four   -- for this text's walks alone
set_option linter.unusedVariables false
set_option linter.unusedSimpArgs false

/-! ### spec_VerParsed: function 16 -/
mutual
def spec_VerParsed.j0 : Nat → Int → ByteArray → Bool → Option (List Int × Bool × ByteArray × ByteArray × Bool × Bool)
 | 0, _, _, _ => none
 | k + 1, x0, x1, x31 => if x31 = true then (some (([] : List Int), false, (⟨#[]⟩ : ByteArray), (⟨#[]⟩ : ByteArray), false, false)) else (if x0 = 1 then (spec_VerParsed.j1 k x0 x1 false) else (spec_VerParsed.j1 k x0 x1 (x0 != 3)))
def spec_VerParsed.j1 : Nat → Int → ByteArray → Bool → Option (List Int × Bool × ByteArray × ByteArray × Bool × Bool)
 | 0, _, _, _ => none
 | k + 1, x0, x1, x38 => if x38 = true then ((spec_VerSemantic.f k x1).bind fun bt197 => (if bt197.2.2.2.2 = true then (spec_VerParsed.j2 k x0 x1 bt197.2.2.2.2 true bt197.1 bt197.2.1 bt197.2.2.1 bt197.2.2.2.1) else (spec_VerParsed.j2 k x0 x1 bt197.2.2.2.2 (x0 == 2) bt197.1 bt197.2.1 bt197.2.2.1 bt197.2.2.2.1))) else ((spec_VerGeneric.f k x1).bind fun bt216 => (if bt216.2.2.2.2.1 = true then (if x0 = 3 then (if 2 ≤ (bt216.1.length : Int) then (some ((bt216.1.take (2 : Int).toNat), bt216.2.1, bt216.2.2.1, bt216.2.2.2.1, bt216.2.2.2.2.1, bt216.2.2.2.2.2)) else (none)) else (some (bt216.1, bt216.2.1, bt216.2.2.1, bt216.2.2.2.1, bt216.2.2.2.2.1, bt216.2.2.2.2.2))) else (some (bt216.1, bt216.2.1, bt216.2.2.1, bt216.2.2.2.1, bt216.2.2.2.2.1, bt216.2.2.2.2.2))))
def spec_VerParsed.j2 : Nat → Int → ByteArray → Bool → Bool → List Int → Bool → ByteArray → ByteArray → Option (List Int × Bool × ByteArray × ByteArray × Bool × Bool)
 | 0, _, _, _, _, _, _, _, _ => none
 | k + 1, x0, x1, x10, x48, x205000, x205001, x205002, x205003 => if x48 = true then (some (x205000, x205001, x205002, x205003, x10, true)) else ((spec_VerGeneric.f k x1).bind fun bt205 => (if bt205.2.2.2.2.1 = true then (if x0 = 3 then (if 2 ≤ (bt205.1.length : Int) then (some ((bt205.1.take (2 : Int).toNat), bt205.2.1, bt205.2.2.1, bt205.2.2.2.1, bt205.2.2.2.2.1, bt205.2.2.2.2.2)) else (none)) else (some (bt205.1, bt205.2.1, bt205.2.2.1, bt205.2.2.2.1, bt205.2.2.2.2.1, bt205.2.2.2.2.2))) else (some (bt205.1, bt205.2.1, bt205.2.2.1, bt205.2.2.2.1, bt205.2.2.2.2.1, bt205.2.2.2.2.2))))
end
def spec_VerParsed.f (k : Nat) (a0 : Int) (a1 : ByteArray) : Option (List Int × Bool × ByteArray × ByteArray × Bool × Bool) := (spec_verAhead.f k a1).bind fun t190 => ((spec_verFields.f k t190).bind fun bt191 => ((spec_verPlace.f k bt191.2 10).bind fun t195 => (if t195 ≥ 0 then (spec_VerParsed.j0 k a0 a1 true) else (if a0 = 1 then (spec_VerParsed.j0 k a0 a1 false) else (if a0 = 3 then (spec_VerParsed.j0 k a0 a1 false) else ((spec_VerLong.f k bt191.2).bind fun t196 => (spec_VerParsed.j0 k a0 a1 t196)))))))
theorem spec_VerParsed.mono_l : ∀ k, (∀ y0 y1 y2, LeO (spec_VerParsed.j0 k y0 y1 y2) (spec_VerParsed.j0 (k + 1) y0 y1 y2)) ∧ (∀ y0 y1 y2, LeO (spec_VerParsed.j1 k y0 y1 y2) (spec_VerParsed.j1 (k + 1) y0 y1 y2)) ∧ (∀ y0 y1 y2 y3 y4 y5 y6 y7, LeO (spec_VerParsed.j2 k y0 y1 y2 y3 y4 y5 y6 y7) (spec_VerParsed.j2 (k + 1) y0 y1 y2 y3 y4 y5 y6 y7))
 | 0 => ⟨fun _ _ _ r h => by simp [spec_VerParsed.j0] at h, fun _ _ _ r h => by simp [spec_VerParsed.j1] at h, fun _ _ _ _ _ _ _ _ r h => by simp [spec_VerParsed.j2] at h⟩
 | k + 1 => by
  obtain ⟨ih0, ih1, ih2⟩ := spec_VerParsed.mono_l k
  refine ⟨?_, ?_, ?_⟩
  ·
   intro y0 y1 y2
   unfold spec_VerParsed.j0
   repeat' first
   | (with_reducible exact ih0 _ _ _)
   | (with_reducible exact ih1 _ _ _)
   | (with_reducible exact ih2 _ _ _ _ _ _ _ _)
   | (with_reducible exact spec_VerGeneric.mono _ _)
   | (with_reducible exact spec_VerLong.mono _ _)
   | (with_reducible exact spec_VerSemantic.mono _ _)
   | (with_reducible exact spec_verAhead.mono _ _)
   | (with_reducible exact spec_verFields.mono _ _)
   | (with_reducible exact spec_verPlace.mono _ _ _)
   | (with_reducible exact LeO.refl _)
   | (with_reducible exact LeO.none _)
   | (with_reducible refine LeO.ite ?_ ?_)
   | (with_reducible refine LeO.bind ?_ (fun _ => ?_))
   | exact ih0 _ _ _
   | exact ih1 _ _ _
   | exact ih2 _ _ _ _ _ _ _ _
   | exact spec_VerGeneric.mono _ _
   | exact spec_VerLong.mono _ _
   | exact spec_VerSemantic.mono _ _
   | exact spec_verAhead.mono _ _
   | exact spec_verFields.mono _ _
   | exact spec_verPlace.mono _ _ _
   | exact LeO.none _
   | refine LeO.ite ?_ ?_
   | refine LeO.bind ?_ (fun _ => ?_)
  ·
   intro y0 y1 y2
   unfold spec_VerParsed.j1
   repeat' first
   | (with_reducible exact ih0 _ _ _)
   | (with_reducible exact ih1 _ _ _)
   | (with_reducible exact ih2 _ _ _ _ _ _ _ _)
   | (with_reducible exact spec_VerGeneric.mono _ _)
   | (with_reducible exact spec_VerLong.mono _ _)
   | (with_reducible exact spec_VerSemantic.mono _ _)
   | (with_reducible exact spec_verAhead.mono _ _)
   | (with_reducible exact spec_verFields.mono _ _)
   | (with_reducible exact spec_verPlace.mono _ _ _)
   | (with_reducible exact LeO.refl _)
   | (with_reducible exact LeO.none _)
   | (with_reducible refine LeO.ite ?_ ?_)
   | (with_reducible refine LeO.bind ?_ (fun _ => ?_))
   | exact ih0 _ _ _
   | exact ih1 _ _ _
   | exact ih2 _ _ _ _ _ _ _ _
   | exact spec_VerGeneric.mono _ _
   | exact spec_VerLong.mono _ _
   | exact spec_VerSemantic.mono _ _
   | exact spec_verAhead.mono _ _
   | exact spec_verFields.mono _ _
   | exact spec_verPlace.mono _ _ _
   | exact LeO.none _
   | refine LeO.ite ?_ ?_
   | refine LeO.bind ?_ (fun _ => ?_)
  ·
   intro y0 y1 y2 y3 y4 y5 y6 y7
   unfold spec_VerParsed.j2
   repeat' first
   | (with_reducible exact ih0 _ _ _)
   | (with_reducible exact ih1 _ _ _)
   | (with_reducible exact ih2 _ _ _ _ _ _ _ _)
   | (with_reducible exact spec_VerGeneric.mono _ _)
   | (with_reducible exact spec_VerLong.mono _ _)
   | (with_reducible exact spec_VerSemantic.mono _ _)
   | (with_reducible exact spec_verAhead.mono _ _)
   | (with_reducible exact spec_verFields.mono _ _)
   | (with_reducible exact spec_verPlace.mono _ _ _)
   | (with_reducible exact LeO.refl _)
   | (with_reducible exact LeO.none _)
   | (with_reducible refine LeO.ite ?_ ?_)
   | (with_reducible refine LeO.bind ?_ (fun _ => ?_))
   | exact ih0 _ _ _
   | exact ih1 _ _ _
   | exact ih2 _ _ _ _ _ _ _ _
   | exact spec_VerGeneric.mono _ _
   | exact spec_VerLong.mono _ _
   | exact spec_VerSemantic.mono _ _
   | exact spec_verAhead.mono _ _
   | exact spec_verFields.mono _ _
   | exact spec_verPlace.mono _ _ _
   | exact LeO.none _
   | refine LeO.ite ?_ ?_
   | refine LeO.bind ?_ (fun _ => ?_)
theorem spec_VerParsed.mono : ∀ a0 a1 k, LeO (spec_VerParsed.f k a0 a1) (spec_VerParsed.f (k + 1) a0 a1) := by
 intro a0 a1 k
 obtain ⟨ih0, ih1, ih2⟩ := spec_VerParsed.mono_l k
 unfold spec_VerParsed.f
 repeat' first
   | (with_reducible exact ih0 _ _ _)
   | (with_reducible exact ih1 _ _ _)
   | (with_reducible exact ih2 _ _ _ _ _ _ _ _)
   | (with_reducible exact spec_VerGeneric.mono _ _)
   | (with_reducible exact spec_VerLong.mono _ _)
   | (with_reducible exact spec_VerSemantic.mono _ _)
   | (with_reducible exact spec_verAhead.mono _ _)
   | (with_reducible exact spec_verFields.mono _ _)
   | (with_reducible exact spec_verPlace.mono _ _ _)
   | (with_reducible exact LeO.refl _)
   | (with_reducible exact LeO.none _)
   | (with_reducible refine LeO.ite ?_ ?_)
   | (with_reducible refine LeO.bind ?_ (fun _ => ?_))
   | exact ih0 _ _ _
   | exact ih1 _ _ _
   | exact ih2 _ _ _ _ _ _ _ _
   | exact spec_VerGeneric.mono _ _
   | exact spec_VerLong.mono _ _
   | exact spec_VerSemantic.mono _ _
   | exact spec_verAhead.mono _ _
   | exact spec_verFields.mono _ _
   | exact spec_verPlace.mono _ _ _
   | exact LeO.none _
   | refine LeO.ite ?_ ?_
   | refine LeO.bind ?_ (fun _ => ?_)
set_option maxHeartbeats 8000000 in
set_option maxRecDepth 100000 in
theorem spec_VerParsed.calls (k : Nat) (a0 : Int) (a1 : ByteArray) (r1 : List Int) (r2 : Bool) (r3 : ByteArray) (r4 : ByteArray) (r5 : Bool) (r6 : Bool) (w : World) (h : spec_VerParsed.f k a0 a1 = some (r1, r2, r3, r4, r5, r6)) :
  Calls Tryd.prog 16 #[.int .i64 a0, .string a1] w fun e w' => ∃ v0_ : Value, e = .returned (.tuple #[.agg #[v0_, .bool r2, .string r3, .string r4], .bool r5, .bool r6]) ∧ Kd.R (Kd.int .u64) 22 w' w.heap.size (fun _ => True) v0_ r1 ∧ Below w.heap.size w w' := by
 have hu26 := Tryd.underlying26
 have HB := aM_ (Below.refl w.heap.size w)
 have H : ((spec_verAhead.f k a1).bind fun t190 => ((spec_verFields.f k t190).bind fun bt191 => ((spec_verPlace.f k bt191.2 10).bind fun t195 => (if t195 ≥ 0 then (spec_VerParsed.j0 k a0 a1 true) else (if a0 = 1 then (spec_VerParsed.j0 k a0 a1 false) else (if a0 = 3 then (spec_VerParsed.j0 k a0 a1 false) else ((spec_VerLong.f k bt191.2).bind fun t196 => (spec_VerParsed.j0 k a0 a1 t196)))))))) = some (r1, r2, r3, r4, r5, r6) := h
 clear h
 replace H := Option.bind_eq_some_iff.mp H
 obtain ⟨t190, A30, H⟩ := H
 replace H : ((spec_verFields.f k t190).bind fun bt191 => ((spec_verPlace.f k bt191.2 10).bind fun t195 => (if t195 ≥ 0 then (spec_VerParsed.j0 k a0 a1 true) else (if a0 = 1 then (spec_VerParsed.j0 k a0 a1 false) else (if a0 = 3 then (spec_VerParsed.j0 k a0 a1 false) else ((spec_VerLong.f k bt191.2).bind fun t196 => (spec_VerParsed.j0 k a0 a1 t196))))))) = some (r1, r2, r3, r4, r5, r6) := H
 have A3 := aM_ A30
 clear A30
 replace H := Option.bind_eq_some_iff.mp H
 obtain ⟨⟨t191, t192⟩, A40, H⟩ := H
 replace H : ((spec_verPlace.f k t192 10).bind fun t195 => (if t195 ≥ 0 then (spec_VerParsed.j0 k a0 a1 true) else (if a0 = 1 then (spec_VerParsed.j0 k a0 a1 false) else (if a0 = 3 then (spec_VerParsed.j0 k a0 a1 false) else ((spec_VerLong.f k t192).bind fun t196 => (spec_VerParsed.j0 k a0 a1 t196)))))) = some (r1, r2, r3, r4, r5, r6) := H
 have A4 := aM_ A40
 clear A40
 have HC5 := aM_ H
 clear H
 go_enter Tryd.func16, Tryd.ntmps16
 go_upto_region 2 with (first | ((with_reducible refine gate_dst (N := 4) rfl ?_); refine box_event ?hg (N := 4) ?hd (cs := #[.slice none 0 0, .bool false, .string (⟨#[]⟩ : ByteArray), .string (⟨#[]⟩ : ByteArray)]) (t := 26) ?hr ?_; (case hd => rfl); (case hg => rfl); (case hr => first | (go_simp; done) | (go_simp; rfl)); intro gb189 hg w6 hbox hb; have n0_ := aM_ (below_step (by repeat (first | (with_reducible first | exact HB.out | apply bB_ | apply wN_ | apply bE_) | exact HB.out)) hb); have n1_ := aM_ (hbox); have n2_ := aM_ ((by rw [hg]; exact (below_size (by repeat (first | (with_reducible first | exact HB.out | apply bB_ | apply wN_ | apply bE_) | exact HB.out))) : w.heap.size ≤ gb189)); have n3_ := aM_ ((by rw [hg]; exact (below_size (by repeat (first | (with_reducible first | exact HB.out | apply bB_ | apply wN_ | apply bE_) | exact HB.out))) : w.heap.size ≤ gb189)); clear HB; have HB := n0_; have BK189 := n1_; have GW189 := n2_; have GE189 := n3_; clear n0_ n1_ n2_ n3_; clear hb hbox hg) | ((with_reducible refine gate_callee (f := 38) rfl ?_); refine goesL_ (some 13) rfl rfl Tryd.func38 (by kernel_rfl) rfl #[.string a1] rfl (by (try simp only [List.map_toArray, List.map_cons, List.map_nil]); first | done | rfl | (simp only [List.length_drop, List.length_take]; rfl)) ?_; (with_reducible refine (spec_verAhead.calls k a1 t190 _ A3.out).mono ?_); rintro e w' ⟨rfl, ⟨nd, rfl⟩⟩; refine ⟨_, rfl, ?_⟩) | ((with_reducible refine gate_callee (f := 37) rfl ?_); refine goesL_ (some 14) rfl rfl Tryd.func37 (by kernel_rfl) rfl #[.string t190] rfl (by (try simp only [List.map_toArray, List.map_cons, List.map_nil]); first | done | rfl | (simp only [List.length_drop, List.length_take]; rfl)) ?_; (with_reducible refine (spec_verFields.calls k t190 t191 t192 _ A4.out).mono ?_); rintro e w7 ⟨v193, rfl, ho0, hb⟩; refine ⟨_, rfl, ?_⟩; have n0_ := aM_ (Kd.R_lower ho0 (below_size (by repeat (first | (with_reducible first | exact HB.out | apply bB_ | apply wN_ | apply bE_ | refine bS_ ?_ GE189.out) | exact HB.out)))); have n1_ := aM_ (blk_below (g := gb189) (o := .cells #[.slice none 0 0, .bool false, .string (⟨#[]⟩ : ByteArray), .string (⟨#[]⟩ : ByteArray)] 26 (0, 0)) (by (with_reducible repeat (first | refine bN_ ?_ _ | refine bD_ ?_ | refine bA_ ?_ _)); exact BK189.out) hb); have n2_ := aM_ (below_step (by repeat (first | (with_reducible first | exact HB.out | apply bB_ | apply wN_ | apply bE_ | refine bS_ ?_ GE189.out) | exact HB.out)) hb); clear BK189; clear HB; have HO194 := n0_; have BK189 := n1_; have HB := n2_; clear n0_ n1_ n2_; (try clear hb); (try clear hb2); (try clear hk); (try clear hi); (try clear ho0)))
 (try simp only [Act.put, List.setIfInBounds_toArray, List.set_cons_zero, List.set_cons_succ])
 go_cut [31] (fun v31 wc => ∃ (kq : Nat) (x31_4 : Bool), v31 = .bool x31_4 ∧ Aside0 (spec_VerParsed.j0 kq a0 a1 x31_4 = some (r1, r2, r3, r4, r5, r6)) ∧ Aside0 (kq ≤ k) ∧ Aside0 (wc.heap[gb189]? = some (.cells #[(.slice none 0 0), .bool false, .string (⟨#[]⟩ : ByteArray), .string (⟨#[]⟩ : ByteArray)] 26 (0, 0))) ∧ Aside0 (Below w.heap.size w wc))
 case first =>
  have H := HC5.out
  clear HC5
  replace H := Option.bind_eq_some_iff.mp H
  obtain ⟨t195, A80, H⟩ := H
  replace H : (if t195 ≥ 0 then (spec_VerParsed.j0 k a0 a1 true) else (if a0 = 1 then (spec_VerParsed.j0 k a0 a1 false) else (if a0 = 3 then (spec_VerParsed.j0 k a0 a1 false) else ((spec_VerLong.f k t192).bind fun t196 => (spec_VerParsed.j0 k a0 a1 t196))))) = some (r1, r2, r3, r4, r5, r6) := H
  have A8 := aM_ A80
  clear A80
  by_cases c9 : t195 ≥ 0
  ·
   rw [if_pos c9] at H
   have c9b0 : decide (0 ≤ t195) = true := decide_eq_true c9
   clear c9
   (first | rw [c9b0] | (simp only [i64_w, i32_w]; rw [c9b0]) | skip)
   have H' := aM_ H
   clear H
   go_wp2_with (first | ((with_reducible refine gate_callee (f := 39) rfl ?_); refine goesL_ (some 18) rfl rfl Tryd.func39 (by kernel_rfl) rfl #[.string t192, .int .u8 10] rfl (by (try simp only [List.map_toArray, List.map_cons, List.map_nil]); first | done | rfl | (simp only [List.length_drop, List.length_take]; rfl)) ?_; (with_reducible refine (spec_verPlace.calls k t192 10 t195 _ A8.out).mono ?_); rintro e w' ⟨rfl, ⟨nd, rfl⟩⟩; refine ⟨_, rfl, ?_⟩))
   go_meet
   case rel => exact ⟨_, (true), (by first | rfl | (simp; done) | (simp [*]; done)), H', ⟨by first | omega | exact Nat.le_refl _⟩, ⟨by (with_reducible repeat (first | refine bN_ ?_ _ | refine bD_ ?_ | refine bA_ ?_ _)); exact BK189.out⟩, ⟨by repeat (first | (with_reducible first | exact HB.out | apply bB_ | apply wN_ | apply bE_ | refine bS_ ?_ GE189.out) | exact HB.out)⟩⟩
  ·
   rw [if_neg c9] at H
   have c9b0 : decide (0 ≤ t195) = false := decide_eq_false c9
   clear c9
   (first | rw [c9b0] | (simp only [i64_w, i32_w]; rw [c9b0]) | skip)
   by_cases c10 : a0 = 1
   ·
    rw [if_pos c10] at H
    have c10b0 : (a0 == 1) = true := beq_iff_eq.mpr c10
    have c10b1 : (a0 != 1) = false := bne_eq_false_iff_eq.mpr c10
    clear c10
    have H' := aM_ H
    clear H
    go_wp2_with (first | ((with_reducible refine gate_callee (f := 39) rfl ?_); refine goesL_ (some 18) rfl rfl Tryd.func39 (by kernel_rfl) rfl #[.string t192, .int .u8 10] rfl (by (try simp only [List.map_toArray, List.map_cons, List.map_nil]); first | done | rfl | (simp only [List.length_drop, List.length_take]; rfl)) ?_; (with_reducible refine (spec_verPlace.calls k t192 10 t195 _ A8.out).mono ?_); rintro e w' ⟨rfl, ⟨nd, rfl⟩⟩; refine ⟨_, rfl, ?_⟩))
    go_meet
    case rel => exact ⟨_, (false), (by first | rfl | (simp; done) | (simp [*]; done)), H', ⟨by first | omega | exact Nat.le_refl _⟩, ⟨by (with_reducible repeat (first | refine bN_ ?_ _ | refine bD_ ?_ | refine bA_ ?_ _)); exact BK189.out⟩, ⟨by repeat (first | (with_reducible first | exact HB.out | apply bB_ | apply wN_ | apply bE_ | refine bS_ ?_ GE189.out) | exact HB.out)⟩⟩
   ·
    rw [if_neg c10] at H
    have c10b0 : (a0 == 1) = false := beq_eq_false_iff_ne.mpr c10
    have c10b1 : (a0 != 1) = true := bne_iff_ne.mpr c10
    by_cases c11 : a0 = 3
    ·
     rw [if_pos c11] at H
     have c11b0 : (a0 == 3) = true := beq_iff_eq.mpr c11
     have c11b1 : (a0 != 3) = false := bne_eq_false_iff_eq.mpr c11
     clear c11
     have H' := aM_ H
     clear H
     go_wp2_with (first | ((with_reducible refine gate_callee (f := 39) rfl ?_); refine goesL_ (some 18) rfl rfl Tryd.func39 (by kernel_rfl) rfl #[.string t192, .int .u8 10] rfl (by (try simp only [List.map_toArray, List.map_cons, List.map_nil]); first | done | rfl | (simp only [List.length_drop, List.length_take]; rfl)) ?_; (with_reducible refine (spec_verPlace.calls k t192 10 t195 _ A8.out).mono ?_); rintro e w' ⟨rfl, ⟨nd, rfl⟩⟩; refine ⟨_, rfl, ?_⟩))
     go_meet
     case rel => exact ⟨_, (false), (by first | rfl | (simp; done) | (simp [*]; done)), H', ⟨by first | omega | exact Nat.le_refl _⟩, ⟨by (with_reducible repeat (first | refine bN_ ?_ _ | refine bD_ ?_ | refine bA_ ?_ _)); exact BK189.out⟩, ⟨by repeat (first | (with_reducible first | exact HB.out | apply bB_ | apply wN_ | apply bE_ | refine bS_ ?_ GE189.out) | exact HB.out)⟩⟩
    ·
     rw [if_neg c11] at H
     have c11b0 : (a0 == 3) = false := beq_eq_false_iff_ne.mpr c11
     have c11b1 : (a0 != 3) = true := bne_iff_ne.mpr c11
     replace H := Option.bind_eq_some_iff.mp H
     obtain ⟨t196, A120, H⟩ := H
     replace H : (spec_VerParsed.j0 k a0 a1 t196) = some (r1, r2, r3, r4, r5, r6) := H
     have A12 := aM_ A120
     clear A120
     have H' := aM_ H
     clear H
     go_wp2_with (first | ((with_reducible refine gate_callee (f := 39) rfl ?_); refine goesL_ (some 18) rfl rfl Tryd.func39 (by kernel_rfl) rfl #[.string t192, .int .u8 10] rfl (by (try simp only [List.map_toArray, List.map_cons, List.map_nil]); first | done | rfl | (simp only [List.length_drop, List.length_take]; rfl)) ?_; (with_reducible refine (spec_verPlace.calls k t192 10 t195 _ A8.out).mono ?_); rintro e w' ⟨rfl, ⟨nd, rfl⟩⟩; refine ⟨_, rfl, ?_⟩) | (go_at_call 12; (with_reducible refine (spec_VerLong.calls k t192 t196 _ A12.out).mono ?_); rintro e w' ⟨rfl, ⟨nd, rfl⟩⟩))
     go_meet
     case rel => exact ⟨_, (t196), (by first | rfl | (simp; done) | (simp [*]; done)), H', ⟨by first | omega | exact Nat.le_refl _⟩, ⟨by (with_reducible repeat (first | refine bN_ ?_ _ | refine bD_ ?_ | refine bA_ ?_ _)); exact BK189.out⟩, ⟨by repeat (first | (with_reducible first | exact HB.out | apply bB_ | apply wN_ | apply bE_ | refine bS_ ?_ GE189.out) | exact HB.out)⟩⟩
 case rest =>
  clear HC5
  try clear c1
  try clear p2
  try clear c3
  try clear c9
  try clear c9b0
  try clear c10
  try clear c10b0
  try clear c10b1
  try clear c11
  try clear c11b0
  try clear c11b1
  obtain ⟨kq, x31_4, rfl, HA, HJ4, BK189, HB⟩ := hcut
  cases kq with
  | zero => exact absurd HA.out (by simp [spec_VerParsed.j0])
  | succ kj4 =>
   have H := HA.out
   clear HA
   simp only [spec_VerParsed.j0] at H
   by_cases c13 : x31_4 = true
   ·
    subst c13
    have H1 : (some (([] : List Int), false, (⟨#[]⟩ : ByteArray), (⟨#[]⟩ : ByteArray), false, false)) = some (r1, r2, r3, r4, r5, r6) := by rw [if_pos rfl] at H; exact H
    clear H
    have H := H1
    clear H1
    simp only [Option.some.injEq, Prod.mk.injEq] at H
    obtain ⟨rfl, rfl, rfl, rfl, rfl, rfl⟩ := H
    have hcz14_0 : wc.cell? ⟨gb189, 0, none⟩ = some (.slice none 0 0) := (bC_ BK189.out 0).trans rfl
    have hcz14_1 : wc.cell? ⟨gb189, 1, none⟩ = some (.bool false) := (bC_ BK189.out 1).trans rfl
    have hcz14_2 : wc.cell? ⟨gb189, 2, none⟩ = some (.string (⟨#[]⟩ : ByteArray)) := (bC_ BK189.out 2).trans rfl
    have hcz14_3 : wc.cell? ⟨gb189, 3, none⟩ = some (.string (⟨#[]⟩ : ByteArray)) := (bC_ BK189.out 3).trans rfl
    have hfz14_0 := bF_ BK189.out 0
    have hfz14_1 := bF_ BK189.out 1
    have hfz14_2 := bF_ BK189.out 2
    have hfz14_3 := bF_ BK189.out 3
    go_wp2
    refine bodyPost_ret (results_ctt rfl _ _ gb189 26 #[.slice none 0 0, .bool false, .string (⟨#[]⟩ : ByteArray), .string (⟨#[]⟩ : ByteArray)] (0, 0) _ rfl (by (with_reducible repeat (first | refine bN_ ?_ _ | refine bD_ ?_ | refine bA_ ?_ _)); refine blk_put (cs := #[.slice none 0 0, .bool false, .string (⟨#[]⟩ : ByteArray), .string (⟨#[]⟩ : ByteArray)]) ?_ 3 _ rfl; (with_reducible repeat (first | refine bN_ ?_ _ | refine bD_ ?_ | refine bA_ ?_ _)); refine blk_put (cs := #[.slice none 0 0, .bool false, .string (⟨#[]⟩ : ByteArray), .string (⟨#[]⟩ : ByteArray)]) ?_ 2 _ rfl; (with_reducible repeat (first | refine bN_ ?_ _ | refine bD_ ?_ | refine bA_ ?_ _)); refine blk_put (cs := #[.slice none 0 0, .bool false, .string (⟨#[]⟩ : ByteArray), .string (⟨#[]⟩ : ByteArray)]) ?_ 1 _ rfl; (with_reducible repeat (first | refine bN_ ?_ _ | refine bD_ ?_ | refine bA_ ?_ _)); refine blk_put (cs := #[.slice none 0 0, .bool false, .string (⟨#[]⟩ : ByteArray), .string (⟨#[]⟩ : ByteArray)]) ?_ 0 _ rfl; (with_reducible repeat (first | refine bN_ ?_ _ | refine bD_ ?_ | refine bA_ ?_ _)); exact BK189.out) Tryd.underlying26 rfl (by kernel_rfl)) rfl ?_
    exact ⟨_, by first | rfl | (simp [errW_none, errW_some] <;> rfl) | (simp [*, errW_none, errW_some] <;> rfl), by first | exact Kd.R_nil _ _ _ _ _ | exact Kd.N_nil _ _ _ _ _ | exact Kd.V_nil _ _ _ _ _ | exact Kd.Q_nil _ _ _ _ _ | exact Kd.S_nil _ _ _ _ _, by repeat (first | (with_reducible first | exact HB.out | apply bB_ | apply wN_ | apply bE_ | refine bS_ ?_ GE189.out) | exact HB.out)⟩
   ·
    replace c13 := Bool.eq_false_iff.mpr c13
    subst c13
    have H1 : (if a0 = 1 then (spec_VerParsed.j1 kj4 a0 a1 false) else (spec_VerParsed.j1 kj4 a0 a1 (a0 != 3))) = some (r1, r2, r3, r4, r5, r6) := by rw [if_neg (show ¬ (false = true) by decide)] at H; exact H
    clear H
    have H := H1
    clear H1
    have HC15 := aM_ H
    clear H
    go_upto_region 4 with (fail)
    go_cut [38] (fun v38 wc => ∃ (kq : Nat) (x38_14 : Bool), v38 = .bool x38_14 ∧ Aside0 (spec_VerParsed.j1 kq a0 a1 x38_14 = some (r1, r2, r3, r4, r5, r6)) ∧ Aside0 (kq ≤ kj4) ∧ Aside0 (wc.heap[gb189]? = some (.cells #[(.slice none 0 0), .bool false, .string (⟨#[]⟩ : ByteArray), .string (⟨#[]⟩ : ByteArray)] 26 (0, 0))) ∧ Aside0 (Below w.heap.size w wc))
    case first =>
     have H := HC15.out
     clear HC15
     by_cases c16 : a0 = 1
     ·
      rw [if_pos c16] at H
      have c16b0 : (a0 == 1) = true := beq_iff_eq.mpr c16
      have c16b1 : (a0 != 1) = false := bne_eq_false_iff_eq.mpr c16
      clear c16
      (first | rw [c16b0] | (simp only [i64_w, i32_w]; rw [c16b0]) | skip)
      have H' := aM_ H
      clear H
      go_wp2
      go_meet
      case rel => exact ⟨_, (false), (by first | rfl | (simp; done) | (simp [*]; done)), H', ⟨by have := HJ4.out; first | omega | exact Nat.le_refl _⟩, ⟨by (with_reducible repeat (first | refine bN_ ?_ _ | refine bD_ ?_ | refine bA_ ?_ _)); exact BK189.out⟩, ⟨by repeat (first | (with_reducible first | exact HB.out | apply bB_ | apply wN_ | apply bE_ | refine bS_ ?_ GE189.out) | exact HB.out)⟩⟩
     ·
      rw [if_neg c16] at H
      have c16b0 : (a0 == 1) = false := beq_eq_false_iff_ne.mpr c16
      have c16b1 : (a0 != 1) = true := bne_iff_ne.mpr c16
      (first | rw [c16b0] | (simp only [i64_w, i32_w]; rw [c16b0]) | skip)
      have H' := aM_ H
      clear H
      go_wp2
      go_meet
      case rel => exact ⟨_, ((a0 != 3)), (by first | rfl | (simp; done) | (simp [*]; done)), H', ⟨by have := HJ4.out; first | omega | exact Nat.le_refl _⟩, ⟨by (with_reducible repeat (first | refine bN_ ?_ _ | refine bD_ ?_ | refine bA_ ?_ _)); exact BK189.out⟩, ⟨by repeat (first | (with_reducible first | exact HB.out | apply bB_ | apply wN_ | apply bE_ | refine bS_ ?_ GE189.out) | exact HB.out)⟩⟩
    case rest =>
     clear HC15
     try clear c1
     try clear p2
     try clear c3
     try clear c9
     try clear c9b0
     try clear c10
     try clear c10b0
     try clear c10b1
     try clear c11
     try clear c11b0
     try clear c11b1
     try clear c13
     try clear c16
     try clear c16b0
     try clear c16b1
     try clear hcz14_0
     try clear hcz14_1
     try clear hcz14_2
     try clear hcz14_3
     try clear hfz14_0
     try clear hfz14_1
     try clear hfz14_2
     try clear hfz14_3
     try clear p2
     obtain ⟨kq, x38_14, rfl, HA, HJ14, BK189, HB⟩ := hcut
     cases kq with
     | zero => exact absurd HA.out (by simp [spec_VerParsed.j1])
     | succ kj14 =>
      have H := HA.out
      clear HA
      simp only [spec_VerParsed.j1] at H
      by_cases c17 : x38_14 = true
      ·
       subst c17
       have H1 : ((spec_VerSemantic.f kj14 a1).bind fun bt197 => (if bt197.2.2.2.2 = true then (spec_VerParsed.j2 kj14 a0 a1 bt197.2.2.2.2 true bt197.1 bt197.2.1 bt197.2.2.1 bt197.2.2.2.1) else (spec_VerParsed.j2 kj14 a0 a1 bt197.2.2.2.2 (a0 == 2) bt197.1 bt197.2.1 bt197.2.2.1 bt197.2.2.2.1))) = some (r1, r2, r3, r4, r5, r6) := by rw [if_pos rfl] at H; exact H
       clear H
       have H := H1
       clear H1
       replace H := Option.bind_eq_some_iff.mp H
       obtain ⟨⟨t197, t200, t201, t202, t203⟩, A180, H⟩ := H
       replace H : (if t203 = true then (spec_VerParsed.j2 kj14 a0 a1 t203 true t197 t200 t201 t202) else (spec_VerParsed.j2 kj14 a0 a1 t203 (a0 == 2) t197 t200 t201 t202)) = some (r1, r2, r3, r4, r5, r6) := H
       have A18 := aM_ A180
       clear A180
       have HC19 := aM_ H
       clear H
       go_upto_region 6 with (first | ((with_reducible refine gate_callee (f := 40) rfl ?_); refine goesL_ (some 41) rfl rfl Tryd.func40 (by kernel_rfl) rfl #[.string a1] rfl (by (try simp only [List.map_toArray, List.map_cons, List.map_nil]); first | done | rfl | (simp only [List.length_drop, List.length_take]; rfl)) ?_; (with_reducible refine (spec_VerSemantic.calls kj14 a1 t197 t200 t201 t202 t203 _ A18.out).mono ?_); rintro e w20 ⟨v198, rfl, ho0, hb⟩; refine ⟨_, rfl, ?_⟩; have n0_ := aM_ (Kd.R_lower ho0 (below_size (by repeat (first | (with_reducible first | exact HB.out | apply bB_ | apply wN_ | apply bE_ | refine bS_ ?_ GE189.out) | exact HB.out)))); have n1_ := aM_ (blk_below (g := gb189) (o := .cells #[.slice none 0 0, .bool false, .string (⟨#[]⟩ : ByteArray), .string (⟨#[]⟩ : ByteArray)] 26 (0, 0)) (by (with_reducible repeat (first | refine bN_ ?_ _ | refine bD_ ?_ | refine bA_ ?_ _)); exact BK189.out) hb); have n2_ := aM_ (below_step (by repeat (first | (with_reducible first | exact HB.out | apply bB_ | apply wN_ | apply bE_ | refine bS_ ?_ GE189.out) | exact HB.out)) hb); clear BK189; clear HB; have HO199 := n0_; have BK189 := n1_; have HB := n2_; clear n0_ n1_ n2_; (try clear hb); (try clear hb2); (try clear hk); (try clear hi); (try clear ho0)) | ((with_reducible refine gate_dst (N := 9) rfl ?_); refine box_event ?hg (N := 9) ?hd (cs := #[.slice none 0 0, .bool false, .string (⟨#[]⟩ : ByteArray), .string (⟨#[]⟩ : ByteArray)]) (t := 26) ?hr ?_; (case hd => rfl); (case hg => rfl); (case hr => first | (go_simp; done) | (go_simp; rfl)); intro gb204 hg w21 hbox hb; have n0_ := aM_ (Kd.R_below (by (with_reducible repeat (first | apply kA_ | apply kN_ | apply kD_)); exact HO199.out) hb); have n1_ := aM_ (blk_below (g := gb189) (o := .cells #[.slice none 0 0, .bool false, .string (⟨#[]⟩ : ByteArray), .string (⟨#[]⟩ : ByteArray)] 26 (0, 0)) (by (with_reducible repeat (first | refine bN_ ?_ _ | refine bD_ ?_ | refine bA_ ?_ _)); exact BK189.out) hb); have n2_ := aM_ (below_step (by repeat (first | (with_reducible first | exact HB.out | apply bB_ | apply wN_ | apply bE_ | refine bS_ ?_ GE189.out) | exact HB.out)) hb); have n3_ := aM_ (hbox); have n4_ := aM_ ((by rw [hg]; exact (below_size (by repeat (first | (with_reducible first | exact HB.out | apply bB_ | apply wN_ | apply bE_ | refine bS_ ?_ GE189.out) | exact HB.out))) : w.heap.size ≤ gb204)); have n5_ := aM_ ((by rw [hg]; exact (below_size (by repeat (first | (with_reducible first | exact HB.out | apply bB_ | apply wN_ | apply bE_ | refine bS_ ?_ GE189.out) | exact HB.out))) : w.heap.size ≤ gb204)); have n6_ := aM_ ((by rw [hg]; exact Nat.ne_of_lt (blk_lt (g := gb189) (o := .cells #[.slice none 0 0, .bool false, .string (⟨#[]⟩ : ByteArray), .string (⟨#[]⟩ : ByteArray)] 26 (0, 0)) (by (with_reducible repeat (first | refine bN_ ?_ _ | refine bD_ ?_ | refine bA_ ?_ _)); exact BK189.out)) : gb189 ≠ gb204)); have n7_ := aM_ ((by rw [hg]; exact Nat.ne_of_gt (blk_lt (g := gb189) (o := .cells #[.slice none 0 0, .bool false, .string (⟨#[]⟩ : ByteArray), .string (⟨#[]⟩ : ByteArray)] 26 (0, 0)) (by (with_reducible repeat (first | refine bN_ ?_ _ | refine bD_ ?_ | refine bA_ ?_ _)); exact BK189.out)) : gb204 ≠ gb189)); clear HO199; clear BK189; clear HB; have HO199 := n0_; have BK189 := n1_; have HB := n2_; have BK204 := n3_; have GW204 := n4_; have GE204 := n5_; have NB189_204 := n6_; have NB204_189 := n7_; clear n0_ n1_ n2_ n3_ n4_ n5_ n6_ n7_; clear hb hbox hg; obtain ⟨Ao22, co22, eo22⟩ := Kd.R_slice HO199.out; subst eo22; have hnb23 := NB204_189.out; have hnc23 := NB189_204.out; have hcz24_0 : w21.cell? ⟨gb204, 0, none⟩ = some (.slice none 0 0) := (bC_ BK204.out 0).trans rfl; have hcz24_1 : w21.cell? ⟨gb204, 1, none⟩ = some (.bool false) := (bC_ BK204.out 1).trans rfl; have hcz24_2 : w21.cell? ⟨gb204, 2, none⟩ = some (.string (⟨#[]⟩ : ByteArray)) := (bC_ BK204.out 2).trans rfl; have hcz24_3 : w21.cell? ⟨gb204, 3, none⟩ = some (.string (⟨#[]⟩ : ByteArray)) := (bC_ BK204.out 3).trans rfl; have hfz24_0 := bF_ BK204.out 0; have hfz24_1 := bF_ BK204.out 1; have hfz24_2 := bF_ BK204.out 2; have hfz24_3 := bF_ BK204.out 3))
       (try simp only [Act.put, List.setIfInBounds_toArray, List.set_cons_zero, List.set_cons_succ])
       go_cut [48] (fun v48 wc => ∃ (kq : Nat) (x48_18 : Bool), v48 = .bool x48_18 ∧ Aside0 (spec_VerParsed.j2 kq a0 a1 t203 x48_18 t197 t200 t201 t202 = some (r1, r2, r3, r4, r5, r6)) ∧ Aside0 (kq ≤ kj14) ∧ Aside0 (Kd.R (Kd.int .u64) 22 wc w.heap.size (fun _ => True) (.slice Ao22 t197.length co22) t197) ∧ Aside0 (wc.heap[gb189]? = some (.cells #[(.slice none 0 0), .bool false, .string (⟨#[]⟩ : ByteArray), .string (⟨#[]⟩ : ByteArray)] 26 (0, 0))) ∧ Aside0 (wc.heap[gb204]? = some (.cells #[(.slice Ao22 t197.length co22), .bool t200, .string t201, .string t202] 26 (0, 0))) ∧ Aside0 (Below w.heap.size w wc))
       case first =>
        have H := HC19.out
        clear HC19
        by_cases c25 : t203 = true
        ·
         subst c25
         have H1 : (spec_VerParsed.j2 kj14 a0 a1 true true t197 t200 t201 t202) = some (r1, r2, r3, r4, r5, r6) := by rw [if_pos rfl] at H; exact H
         clear H
         have H := H1
         clear H1
         have H' := aM_ H
         clear H
         go_wp2
         go_meet
         case rel => exact ⟨_, (true), (by first | rfl | (simp; done) | (simp [*]; done)), H', ⟨by have := HJ4.out; have := HJ14.out; first | omega | exact Nat.le_refl _⟩, ⟨by (with_reducible repeat (first | apply kA_ | apply kN_ | apply kD_)); exact Kd.R_mono (Kd.R_far (p := ⟨gb204, 3, none⟩) (Kd.R_far (p := ⟨gb204, 2, none⟩) (Kd.R_far (p := ⟨gb204, 1, none⟩) (Kd.R_far (p := ⟨gb204, 0, none⟩) (Kd.R_types HO199.out BK204.out (by decide)) (fun _ hk => hk.2) (.slice Ao22 t197.length co22)) (fun _ hk => hk.2) (.bool t200)) (fun _ hk => hk.2) (.string t201)) (fun _ hk => hk.2) (.string t202)) (fun _ hk => trivial)⟩, ⟨by (with_reducible repeat (first | refine bN_ ?_ _ | refine bD_ ?_ | refine bA_ ?_ _)); refine blk_far ?_ NB189_204.out _; (with_reducible repeat (first | refine bN_ ?_ _ | refine bD_ ?_ | refine bA_ ?_ _)); refine blk_far ?_ NB189_204.out _; (with_reducible repeat (first | refine bN_ ?_ _ | refine bD_ ?_ | refine bA_ ?_ _)); refine blk_far ?_ NB189_204.out _; (with_reducible repeat (first | refine bN_ ?_ _ | refine bD_ ?_ | refine bA_ ?_ _)); refine blk_far ?_ NB189_204.out _; (with_reducible repeat (first | refine bN_ ?_ _ | refine bD_ ?_ | refine bA_ ?_ _)); exact BK189.out⟩, ⟨by (with_reducible repeat (first | refine bN_ ?_ _ | refine bD_ ?_ | refine bA_ ?_ _)); refine blk_put (cs := #[.slice Ao22 t197.length co22, .bool t200, .string t201, .string (⟨#[]⟩ : ByteArray)]) ?_ 3 _ rfl; (with_reducible repeat (first | refine bN_ ?_ _ | refine bD_ ?_ | refine bA_ ?_ _)); refine blk_put (cs := #[.slice Ao22 t197.length co22, .bool t200, .string (⟨#[]⟩ : ByteArray), .string (⟨#[]⟩ : ByteArray)]) ?_ 2 _ rfl; (with_reducible repeat (first | refine bN_ ?_ _ | refine bD_ ?_ | refine bA_ ?_ _)); refine blk_put (cs := #[.slice Ao22 t197.length co22, .bool false, .string (⟨#[]⟩ : ByteArray), .string (⟨#[]⟩ : ByteArray)]) ?_ 1 _ rfl; (with_reducible repeat (first | refine bN_ ?_ _ | refine bD_ ?_ | refine bA_ ?_ _)); refine blk_put (cs := #[.slice none 0 0, .bool false, .string (⟨#[]⟩ : ByteArray), .string (⟨#[]⟩ : ByteArray)]) ?_ 0 _ rfl; (with_reducible repeat (first | refine bN_ ?_ _ | refine bD_ ?_ | refine bA_ ?_ _)); exact BK204.out⟩, ⟨by repeat (first | (with_reducible first | exact HB.out | apply bB_ | apply wN_ | apply bE_ | refine bS_ ?_ GE189.out | refine bS_ ?_ GE204.out) | exact HB.out)⟩⟩
        ·
         replace c25 := Bool.eq_false_iff.mpr c25
         subst c25
         have H1 : (spec_VerParsed.j2 kj14 a0 a1 false (a0 == 2) t197 t200 t201 t202) = some (r1, r2, r3, r4, r5, r6) := by rw [if_neg (show ¬ (false = true) by decide)] at H; exact H
         clear H
         have H := H1
         clear H1
         have H' := aM_ H
         clear H
         go_wp2
         go_meet
         case rel => exact ⟨_, ((a0 == 2)), (by first | rfl | (simp; done) | (simp [*]; done)), H', ⟨by have := HJ4.out; have := HJ14.out; first | omega | exact Nat.le_refl _⟩, ⟨by (with_reducible repeat (first | apply kA_ | apply kN_ | apply kD_)); exact Kd.R_mono (Kd.R_far (p := ⟨gb204, 3, none⟩) (Kd.R_far (p := ⟨gb204, 2, none⟩) (Kd.R_far (p := ⟨gb204, 1, none⟩) (Kd.R_far (p := ⟨gb204, 0, none⟩) (Kd.R_types HO199.out BK204.out (by decide)) (fun _ hk => hk.2) (.slice Ao22 t197.length co22)) (fun _ hk => hk.2) (.bool t200)) (fun _ hk => hk.2) (.string t201)) (fun _ hk => hk.2) (.string t202)) (fun _ hk => trivial)⟩, ⟨by (with_reducible repeat (first | refine bN_ ?_ _ | refine bD_ ?_ | refine bA_ ?_ _)); refine blk_far ?_ NB189_204.out _; (with_reducible repeat (first | refine bN_ ?_ _ | refine bD_ ?_ | refine bA_ ?_ _)); refine blk_far ?_ NB189_204.out _; (with_reducible repeat (first | refine bN_ ?_ _ | refine bD_ ?_ | refine bA_ ?_ _)); refine blk_far ?_ NB189_204.out _; (with_reducible repeat (first | refine bN_ ?_ _ | refine bD_ ?_ | refine bA_ ?_ _)); refine blk_far ?_ NB189_204.out _; (with_reducible repeat (first | refine bN_ ?_ _ | refine bD_ ?_ | refine bA_ ?_ _)); exact BK189.out⟩, ⟨by (with_reducible repeat (first | refine bN_ ?_ _ | refine bD_ ?_ | refine bA_ ?_ _)); refine blk_put (cs := #[.slice Ao22 t197.length co22, .bool t200, .string t201, .string (⟨#[]⟩ : ByteArray)]) ?_ 3 _ rfl; (with_reducible repeat (first | refine bN_ ?_ _ | refine bD_ ?_ | refine bA_ ?_ _)); refine blk_put (cs := #[.slice Ao22 t197.length co22, .bool t200, .string (⟨#[]⟩ : ByteArray), .string (⟨#[]⟩ : ByteArray)]) ?_ 2 _ rfl; (with_reducible repeat (first | refine bN_ ?_ _ | refine bD_ ?_ | refine bA_ ?_ _)); refine blk_put (cs := #[.slice Ao22 t197.length co22, .bool false, .string (⟨#[]⟩ : ByteArray), .string (⟨#[]⟩ : ByteArray)]) ?_ 1 _ rfl; (with_reducible repeat (first | refine bN_ ?_ _ | refine bD_ ?_ | refine bA_ ?_ _)); refine blk_put (cs := #[.slice none 0 0, .bool false, .string (⟨#[]⟩ : ByteArray), .string (⟨#[]⟩ : ByteArray)]) ?_ 0 _ rfl; (with_reducible repeat (first | refine bN_ ?_ _ | refine bD_ ?_ | refine bA_ ?_ _)); exact BK204.out⟩, ⟨by repeat (first | (with_reducible first | exact HB.out | apply bB_ | apply wN_ | apply bE_ | refine bS_ ?_ GE189.out | refine bS_ ?_ GE204.out) | exact HB.out)⟩⟩
       case rest =>
        clear HC19
        try clear c1
        try clear c2
        try clear p2
        try clear c3
        try clear c4
        try clear c9
        try clear c9b0
        try clear c10
        try clear c10b0
        try clear c10b1
        try clear c11
        try clear c11b0
        try clear c11b1
        try clear c13
        try clear c16
        try clear c16b0
        try clear c16b1
        try clear c17
        try clear c23
        try clear c25
        try clear hcz14_0
        try clear hcz14_1
        try clear hcz14_2
        try clear hcz14_3
        try clear hcz24_0
        try clear hcz24_1
        try clear hcz24_2
        try clear hcz24_3
        try clear hfz14_0
        try clear hfz14_1
        try clear hfz14_2
        try clear hfz14_3
        try clear hfz24_0
        try clear hfz24_1
        try clear hfz24_2
        try clear hfz24_3
        try clear p2
        obtain ⟨kq, x48_18, rfl, HA, HJ18, HO_205000, BK189, BK204, HB⟩ := hcut
        cases kq with
        | zero => exact absurd HA.out (by simp [spec_VerParsed.j2])
        | succ kj18 =>
         have H := HA.out
         clear HA
         simp only [spec_VerParsed.j2] at H
         by_cases c26 : x48_18 = true
         ·
          subst c26
          have H1 : (some (t197, t200, t201, t202, t203, true)) = some (r1, r2, r3, r4, r5, r6) := by rw [if_pos rfl] at H; exact H
          clear H
          have H := H1
          clear H1
          simp only [Option.some.injEq, Prod.mk.injEq] at H
          obtain ⟨rfl, rfl, rfl, rfl, rfl, rfl⟩ := H
          have hnb27 := NB204_189.out
          have hnc27 := NB189_204.out
          have hcz28_0 : wc.cell? ⟨gb204, 0, none⟩ = some (.slice Ao22 t197.length co22) := (bC_ BK204.out 0).trans rfl
          have hcz28_1 : wc.cell? ⟨gb204, 1, none⟩ = some (.bool t200) := (bC_ BK204.out 1).trans rfl
          have hcz28_2 : wc.cell? ⟨gb204, 2, none⟩ = some (.string t201) := (bC_ BK204.out 2).trans rfl
          have hcz28_3 : wc.cell? ⟨gb204, 3, none⟩ = some (.string t202) := (bC_ BK204.out 3).trans rfl
          have hfz28_0 := bF_ BK204.out 0
          have hfz28_1 := bF_ BK204.out 1
          have hfz28_2 := bF_ BK204.out 2
          have hfz28_3 := bF_ BK204.out 3
          have hcz29_0 : wc.cell? ⟨gb189, 0, none⟩ = some (.slice none 0 0) := (bC_ BK189.out 0).trans rfl
          have hcz29_1 : wc.cell? ⟨gb189, 1, none⟩ = some (.bool false) := (bC_ BK189.out 1).trans rfl
          have hcz29_2 : wc.cell? ⟨gb189, 2, none⟩ = some (.string (⟨#[]⟩ : ByteArray)) := (bC_ BK189.out 2).trans rfl
          have hcz29_3 : wc.cell? ⟨gb189, 3, none⟩ = some (.string (⟨#[]⟩ : ByteArray)) := (bC_ BK189.out 3).trans rfl
          have hfz29_0 := bF_ BK189.out 0
          have hfz29_1 := bF_ BK189.out 1
          have hfz29_2 := bF_ BK189.out 2
          have hfz29_3 := bF_ BK189.out 3
          go_wp2
          refine bodyPost_ret (results_ctt rfl _ _ gb189 26 #[.slice Ao22 t197.length co22, .bool t200, .string t201, .string t202] (0, 0) _ rfl (by (with_reducible repeat (first | refine bN_ ?_ _ | refine bD_ ?_ | refine bA_ ?_ _)); refine blk_put (cs := #[.slice Ao22 t197.length co22, .bool t200, .string t201, .string (⟨#[]⟩ : ByteArray)]) ?_ 3 _ rfl; (with_reducible repeat (first | refine bN_ ?_ _ | refine bD_ ?_ | refine bA_ ?_ _)); refine blk_put (cs := #[.slice Ao22 t197.length co22, .bool t200, .string (⟨#[]⟩ : ByteArray), .string (⟨#[]⟩ : ByteArray)]) ?_ 2 _ rfl; (with_reducible repeat (first | refine bN_ ?_ _ | refine bD_ ?_ | refine bA_ ?_ _)); refine blk_put (cs := #[.slice Ao22 t197.length co22, .bool false, .string (⟨#[]⟩ : ByteArray), .string (⟨#[]⟩ : ByteArray)]) ?_ 1 _ rfl; (with_reducible repeat (first | refine bN_ ?_ _ | refine bD_ ?_ | refine bA_ ?_ _)); refine blk_put (cs := #[.slice none 0 0, .bool false, .string (⟨#[]⟩ : ByteArray), .string (⟨#[]⟩ : ByteArray)]) ?_ 0 _ rfl; (with_reducible repeat (first | refine bN_ ?_ _ | refine bD_ ?_ | refine bA_ ?_ _)); exact BK189.out) Tryd.underlying26 rfl (by kernel_rfl)) rfl ?_
          exact ⟨_, by first | rfl | (simp [errW_none, errW_some] <;> rfl) | (simp [*, errW_none, errW_some] <;> rfl), by (with_reducible repeat (first | apply kA_ | apply kN_ | apply kD_)); exact Kd.R_mono (Kd.R_far (p := ⟨gb189, 3, none⟩) (Kd.R_far (p := ⟨gb189, 2, none⟩) (Kd.R_far (p := ⟨gb189, 1, none⟩) (Kd.R_far (p := ⟨gb189, 0, none⟩) (Kd.R_types HO_205000.out BK189.out (by decide)) (fun _ hk => hk.2) (.slice Ao22 t197.length co22)) (fun _ hk => hk.2) (.bool t200)) (fun _ hk => hk.2) (.string t201)) (fun _ hk => hk.2) (.string t202)) (fun _ hk => trivial), by repeat (first | (with_reducible first | exact HB.out | apply bB_ | apply wN_ | apply bE_ | refine bS_ ?_ GE189.out | refine bS_ ?_ GE204.out) | exact HB.out)⟩
         ·
          replace c26 := Bool.eq_false_iff.mpr c26
          subst c26
          have H1 : ((spec_VerGeneric.f kj18 a1).bind fun bt205 => (if bt205.2.2.2.2.1 = true then (if a0 = 3 then (if 2 ≤ (bt205.1.length : Int) then (some ((bt205.1.take (2 : Int).toNat), bt205.2.1, bt205.2.2.1, bt205.2.2.2.1, bt205.2.2.2.2.1, bt205.2.2.2.2.2)) else (none)) else (some (bt205.1, bt205.2.1, bt205.2.2.1, bt205.2.2.2.1, bt205.2.2.2.2.1, bt205.2.2.2.2.2))) else (some (bt205.1, bt205.2.1, bt205.2.2.1, bt205.2.2.2.1, bt205.2.2.2.2.1, bt205.2.2.2.2.2)))) = some (r1, r2, r3, r4, r5, r6) := by rw [if_neg (show ¬ (false = true) by decide)] at H; exact H
          clear H
          have H := H1
          clear H1
          replace H := Option.bind_eq_some_iff.mp H
          obtain ⟨⟨t205, t208, t209, t210, t211, t212⟩, A300, H⟩ := H
          replace H : (if t211 = true then (if a0 = 3 then (if 2 ≤ (t205.length : Int) then (some ((t205.take (2 : Int).toNat), t208, t209, t210, t211, t212)) else (none)) else (some (t205, t208, t209, t210, t211, t212))) else (some (t205, t208, t209, t210, t211, t212))) = some (r1, r2, r3, r4, r5, r6) := H
          have A30 := aM_ A300
          clear A300
          by_cases c31 : t211 = true
          ·
           subst c31
           have H1 : (if a0 = 3 then (if 2 ≤ (t205.length : Int) then (some ((t205.take (2 : Int).toNat), t208, t209, t210, true, t212)) else (none)) else (some (t205, t208, t209, t210, true, t212))) = some (r1, r2, r3, r4, r5, r6) := by rw [if_pos rfl] at H; exact H
           clear H
           have H := H1
           clear H1
           by_cases c32 : a0 = 3
           ·
            rw [if_pos c32] at H
            have c32b0 : (a0 == 3) = true := beq_iff_eq.mpr c32
            have c32b1 : (a0 != 3) = false := bne_eq_false_iff_eq.mpr c32
            clear c32
            by_cases c33 : 2 ≤ (t205.length : Int)
            ·
             rw [if_pos c33] at H
             have c33b0 := eq_true c33
             have c33b1 : decide (2 ≤ (t205.length : Int)) = true := decide_eq_true c33
             clear c33
             obtain ⟨y213, hy213⟩ : ∃ y_ : List Int, y_ = (t205.take (2 : Int).toNat) := ⟨_, rfl⟩
             replace H : (some (y213, t208, t209, t210, true, t212)) = some (r1, r2, r3, r4, r5, r6) := by first | (rw [hy213]; with_reducible exact H) | (have H2_ := (Option.bind_some _ _).symm.trans H; rw [hy213]; with_reducible exact H2_) | (have H2_ := (Option.bind_some _ _).symm.trans H; with_reducible exact H2_) | with_reducible exact H | (rw [hy213]; exact H) | exact H
             have Ny213 := aM_ hy213
             clear hy213
             simp only [Option.some.injEq, Prod.mk.injEq] at H
             obtain ⟨rfl, rfl, rfl, rfl, rfl, rfl⟩ := H
             go_wp2_with (first | ((with_reducible refine gate_callee (f := 41) rfl ?_); refine goesL_ (some 53) rfl rfl Tryd.func41 (by kernel_rfl) rfl #[.string a1] rfl (by (try simp only [List.map_toArray, List.map_cons, List.map_nil]); first | done | rfl | (simp only [List.length_drop, List.length_take]; rfl)) ?_; (with_reducible refine (spec_VerGeneric.calls kj18 a1 t205 t208 t209 t210 true t212 _ A30.out).mono ?_); rintro e w34 ⟨v206, rfl, ho0, hb⟩; refine ⟨_, rfl, ?_⟩; have n0_ := aM_ (Kd.R_elder' (by (with_reducible repeat (first | apply kA_ | apply kN_ | apply kD_)); exact HO_205000.out) (Kd.R_base ho0) hb); have n1_ := aM_ (Kd.R_lower (Kd.R_new' ho0 (Kd.R_lt (by (with_reducible repeat (first | apply kA_ | apply kN_ | apply kD_)); exact HO_205000.out))) (below_size (by repeat (first | (with_reducible first | exact HB.out | apply bB_ | apply wN_ | apply bE_ | refine bS_ ?_ GE189.out | refine bS_ ?_ GE204.out) | exact HB.out)))); have n2_ := aM_ (blk_below (g := gb189) (o := .cells #[.slice none 0 0, .bool false, .string (⟨#[]⟩ : ByteArray), .string (⟨#[]⟩ : ByteArray)] 26 (0, 0)) (by (with_reducible repeat (first | refine bN_ ?_ _ | refine bD_ ?_ | refine bA_ ?_ _)); exact BK189.out) hb); have n3_ := aM_ (blk_below (g := gb204) (o := .cells #[.slice Ao22 t197.length co22, .bool t200, .string t201, .string t202] 26 (0, 0)) (by (with_reducible repeat (first | refine bN_ ?_ _ | refine bD_ ?_ | refine bA_ ?_ _)); exact BK204.out) hb); have n4_ := aM_ (below_step (by repeat (first | (with_reducible first | exact HB.out | apply bB_ | apply wN_ | apply bE_ | refine bS_ ?_ GE189.out | refine bS_ ?_ GE204.out) | exact HB.out)) hb); clear HO_205000; clear BK189; clear BK204; clear HB; have HO_205000 := n0_; have HO207 := n1_; have BK189 := n2_; have BK204 := n3_; have HB := n4_; clear n0_ n1_ n2_ n3_ n4_; (try clear hb); (try clear hb2); (try clear hk); (try clear hi); (try clear ho0); obtain ⟨Ao35, co35, eo35⟩ := Kd.R_slice HO207.out; subst eo35; have hnb36 := NB189_204.out; have hnc36 := NB204_189.out; have hcz37_0 : w34.cell? ⟨gb189, 0, none⟩ = some (.slice none 0 0) := (bC_ BK189.out 0).trans rfl; have hcz37_1 : w34.cell? ⟨gb189, 1, none⟩ = some (.bool false) := (bC_ BK189.out 1).trans rfl; have hcz37_2 : w34.cell? ⟨gb189, 2, none⟩ = some (.string (⟨#[]⟩ : ByteArray)) := (bC_ BK189.out 2).trans rfl; have hcz37_3 : w34.cell? ⟨gb189, 3, none⟩ = some (.string (⟨#[]⟩ : ByteArray)) := (bC_ BK189.out 3).trans rfl; have hfz37_0 := bF_ BK189.out 0; have hfz37_1 := bF_ BK189.out 1; have hfz37_2 := bF_ BK189.out 2; have hfz37_3 := bF_ BK189.out 3) | ((with_reducible refine gate_store (t := 26) (p := 4) rfl ?_); refine store_event (t := 26) (p := 4) (v := ?vo_w38) (w1 := ((((w34.setCell ⟨gb189, 0, none⟩ (.slice Ao35 t205.length co35)).setCell ⟨gb189, 1, none⟩ (.bool t208)).setCell ⟨gb189, 2, none⟩ (.string t209)).setCell ⟨gb189, 3, none⟩ (.string t210))) ?hg ?ho ?hn ?hr ?_; (case ho => rfl); (case hg => rfl); (case hn => rfl); (case hr => first | (go_simp; done) | (go_simp; rfl)); intro w38 hw; have n0_ : Aside0 (Kd.R (Kd.int .u64) 22 w38 w.heap.size (fun k_ => some k_ ≠ (.slice Ao35 t205.length co35 : Value).ownBlock) (.slice Ao22 t197.length co22) t197) := ⟨(by rw [hw]; exact (by (with_reducible repeat (first | apply kA_ | apply kN_ | apply kD_)); exact Kd.R_mono (Kd.R_far (p := ⟨gb189, 3, none⟩) (Kd.R_far (p := ⟨gb189, 2, none⟩) (Kd.R_far (p := ⟨gb189, 1, none⟩) (Kd.R_far (p := ⟨gb189, 0, none⟩) (Kd.R_types HO_205000.out BK189.out (by decide)) (fun _ hk => hk.2) (.slice Ao35 t205.length co35)) (fun _ hk => hk.2) (.bool t208)) (fun _ hk => hk.2) (.string t209)) (fun _ hk => hk.2) (.string t210)) (fun _ hk => hk.1.2)))⟩; have n1_ : Aside0 (Kd.R (Kd.int .u64) 22 w38 w.heap.size (fun k_ => some k_ ≠ (.slice Ao22 t197.length co22 : Value).ownBlock) (.slice Ao35 t205.length co35) t205) := ⟨(by rw [hw]; exact (by (with_reducible repeat (first | apply kA_ | apply kN_ | apply kD_)); exact Kd.R_mono (Kd.R_far (p := ⟨gb189, 3, none⟩) (Kd.R_far (p := ⟨gb189, 2, none⟩) (Kd.R_far (p := ⟨gb189, 1, none⟩) (Kd.R_far (p := ⟨gb189, 0, none⟩) (Kd.R_types HO207.out BK189.out (by decide)) (fun _ hk => hk.2) (.slice Ao35 t205.length co35)) (fun _ hk => hk.2) (.bool t208)) (fun _ hk => hk.2) (.string t209)) (fun _ hk => hk.2) (.string t210)) (fun _ hk => hk.1.2)))⟩; have n2_ : Aside0 (w38.heap[gb189]? = some (.cells #[.slice Ao35 t205.length co35, .bool t208, .string t209, .string t210] 26 (0, 0))) := ⟨(by rw [hw]; exact (by (with_reducible repeat (first | refine bN_ ?_ _ | refine bD_ ?_ | refine bA_ ?_ _)); refine blk_put (cs := #[.slice Ao35 t205.length co35, .bool t208, .string t209, .string (⟨#[]⟩ : ByteArray)]) ?_ 3 _ rfl; (with_reducible repeat (first | refine bN_ ?_ _ | refine bD_ ?_ | refine bA_ ?_ _)); refine blk_put (cs := #[.slice Ao35 t205.length co35, .bool t208, .string (⟨#[]⟩ : ByteArray), .string (⟨#[]⟩ : ByteArray)]) ?_ 2 _ rfl; (with_reducible repeat (first | refine bN_ ?_ _ | refine bD_ ?_ | refine bA_ ?_ _)); refine blk_put (cs := #[.slice Ao35 t205.length co35, .bool false, .string (⟨#[]⟩ : ByteArray), .string (⟨#[]⟩ : ByteArray)]) ?_ 1 _ rfl; (with_reducible repeat (first | refine bN_ ?_ _ | refine bD_ ?_ | refine bA_ ?_ _)); refine blk_put (cs := #[.slice none 0 0, .bool false, .string (⟨#[]⟩ : ByteArray), .string (⟨#[]⟩ : ByteArray)]) ?_ 0 _ rfl; (with_reducible repeat (first | refine bN_ ?_ _ | refine bD_ ?_ | refine bA_ ?_ _)); exact BK189.out))⟩; have n3_ : Aside0 (w38.heap[gb204]? = some (.cells #[.slice Ao22 t197.length co22, .bool t200, .string t201, .string t202] 26 (0, 0))) := ⟨(by rw [hw]; exact (by (with_reducible repeat (first | refine bN_ ?_ _ | refine bD_ ?_ | refine bA_ ?_ _)); refine blk_far ?_ NB204_189.out _; (with_reducible repeat (first | refine bN_ ?_ _ | refine bD_ ?_ | refine bA_ ?_ _)); refine blk_far ?_ NB204_189.out _; (with_reducible repeat (first | refine bN_ ?_ _ | refine bD_ ?_ | refine bA_ ?_ _)); refine blk_far ?_ NB204_189.out _; (with_reducible repeat (first | refine bN_ ?_ _ | refine bD_ ?_ | refine bA_ ?_ _)); refine blk_far ?_ NB204_189.out _; (with_reducible repeat (first | refine bN_ ?_ _ | refine bD_ ?_ | refine bA_ ?_ _)); exact BK204.out))⟩; have n4_ : Aside0 (Below w.heap.size w w38) := ⟨(by rw [hw]; exact (by repeat (first | (with_reducible first | exact HB.out | apply bB_ | apply wN_ | apply bE_ | refine bS_ ?_ GE189.out | refine bS_ ?_ GE204.out) | exact HB.out)))⟩; clear hw; clear HO_205000; clear HO207; clear BK189; clear BK204; clear HB; have HO_205000 := n0_; have HO207 := n1_; have BK189 := n2_; have BK204 := n3_; have HB := n4_; clear n0_ n1_ n2_ n3_ n4_; have hcz39_0 : w38.cell? ⟨gb189, 0, none⟩ = some (.slice Ao35 t205.length co35) := (bC_ BK189.out 0).trans rfl; have hcz39_1 : w38.cell? ⟨gb189, 1, none⟩ = some (.bool t208) := (bC_ BK189.out 1).trans rfl; have hcz39_2 : w38.cell? ⟨gb189, 2, none⟩ = some (.string t209) := (bC_ BK189.out 2).trans rfl; have hcz39_3 : w38.cell? ⟨gb189, 3, none⟩ = some (.string t210) := (bC_ BK189.out 3).trans rfl; have hfz39_0 := bF_ BK189.out 0; have hfz39_1 := bF_ BK189.out 1; have hfz39_2 := bF_ BK189.out 2; have hfz39_3 := bF_ BK189.out 3; have q40 : (2 : Int) ≤ ((t205.length : Int) : Int) := of_decide_eq_true (by first | (with_reducible assumption) | assumption); obtain ⟨i040, hi040, _, hsz40, _⟩ := info_parts info22; have hcut40 := cut_to (P := Tryd.prog) 24 22 .i64 Tryd.underlying24 hi040 Ao35 t205.length co35 2 (by omega) q40 (Kd.R_reads' HO207.out).2.1; have hr40 := Kd.R_take (m := (2 : Int).toNat) HO207.out (by omega); have hy40 : y213.length = (2 : Int).toNat := (by rw [Ny213.out, List.length_take]; omega); rw [← Ny213.out] at hr40; rw [← hy40] at hr40 hcut40; clear hy40 hi040 hsz40 HO207; have HO215 := aM_ hr40; clear hr40; replace q40 := eq_true q40))
             refine bodyPost_ret (results_ctt rfl _ _ gb189 26 #[.slice Ao35 y213.length co35, .bool t208, .string t209, .string t210] (0, 0) _ rfl (by (with_reducible repeat (first | refine bN_ ?_ _ | refine bD_ ?_ | refine bA_ ?_ _)); refine blk_put (cs := #[.slice Ao35 y213.length co35, .bool t208, .string t209, .string t210]) ?_ 3 _ rfl; (with_reducible repeat (first | refine bN_ ?_ _ | refine bD_ ?_ | refine bA_ ?_ _)); refine blk_put (cs := #[.slice Ao35 y213.length co35, .bool t208, .string t209, .string t210]) ?_ 2 _ rfl; (with_reducible repeat (first | refine bN_ ?_ _ | refine bD_ ?_ | refine bA_ ?_ _)); refine blk_put (cs := #[.slice Ao35 y213.length co35, .bool t208, .string t209, .string t210]) ?_ 1 _ rfl; (with_reducible repeat (first | refine bN_ ?_ _ | refine bD_ ?_ | refine bA_ ?_ _)); refine blk_put (cs := #[.slice Ao35 y213.length co35, .bool t208, .string t209, .string t210]) ?_ 0 _ rfl; (with_reducible repeat (first | refine bN_ ?_ _ | refine bD_ ?_ | refine bA_ ?_ _)); refine blk_put (cs := #[.slice Ao35 t205.length co35, .bool t208, .string t209, .string t210]) ?_ 0 _ rfl; (with_reducible repeat (first | refine bN_ ?_ _ | refine bD_ ?_ | refine bA_ ?_ _)); exact BK189.out) Tryd.underlying26 rfl (by kernel_rfl)) rfl ?_
             exact ⟨_, by first | rfl | (simp [errW_none, errW_some] <;> rfl) | (simp [*, errW_none, errW_some] <;> rfl), by (with_reducible repeat (first | apply kA_ | apply kN_ | apply kD_)); exact Kd.R_mono (Kd.R_far (p := ⟨gb189, 3, none⟩) (Kd.R_far (p := ⟨gb189, 2, none⟩) (Kd.R_far (p := ⟨gb189, 1, none⟩) (Kd.R_far (p := ⟨gb189, 0, none⟩) (Kd.R_far (p := ⟨gb189, 0, none⟩) (Kd.R_types HO215.out BK189.out (by decide)) (fun _ hk => hk.2) (.slice Ao35 y213.length co35)) (fun _ hk => hk.2) (.slice Ao35 y213.length co35)) (fun _ hk => hk.2) (.bool t208)) (fun _ hk => hk.2) (.string t209)) (fun _ hk => hk.2) (.string t210)) (fun _ hk => trivial), by repeat (first | (with_reducible first | exact HB.out | apply bB_ | apply wN_ | apply bE_ | refine bS_ ?_ GE189.out | refine bS_ ?_ GE204.out) | exact HB.out)⟩
            ·
             rw [if_neg c33] at H
             exact absurd H (by simp)
           ·
            rw [if_neg c32] at H
            have c32b0 : (a0 == 3) = false := beq_eq_false_iff_ne.mpr c32
            have c32b1 : (a0 != 3) = true := bne_iff_ne.mpr c32
            simp only [Option.some.injEq, Prod.mk.injEq] at H
            obtain ⟨rfl, rfl, rfl, rfl, rfl, rfl⟩ := H
            go_wp2_with (first | ((with_reducible refine gate_callee (f := 41) rfl ?_); refine goesL_ (some 53) rfl rfl Tryd.func41 (by kernel_rfl) rfl #[.string a1] rfl (by (try simp only [List.map_toArray, List.map_cons, List.map_nil]); first | done | rfl | (simp only [List.length_drop, List.length_take]; rfl)) ?_; (with_reducible refine (spec_VerGeneric.calls kj18 a1 t205 t208 t209 t210 true t212 _ A30.out).mono ?_); rintro e w41 ⟨v206, rfl, ho0, hb⟩; refine ⟨_, rfl, ?_⟩; have n0_ := aM_ (Kd.R_elder' (by (with_reducible repeat (first | apply kA_ | apply kN_ | apply kD_)); exact HO_205000.out) (Kd.R_base ho0) hb); have n1_ := aM_ (Kd.R_lower (Kd.R_new' ho0 (Kd.R_lt (by (with_reducible repeat (first | apply kA_ | apply kN_ | apply kD_)); exact HO_205000.out))) (below_size (by repeat (first | (with_reducible first | exact HB.out | apply bB_ | apply wN_ | apply bE_ | refine bS_ ?_ GE189.out | refine bS_ ?_ GE204.out) | exact HB.out)))); have n2_ := aM_ (blk_below (g := gb189) (o := .cells #[.slice none 0 0, .bool false, .string (⟨#[]⟩ : ByteArray), .string (⟨#[]⟩ : ByteArray)] 26 (0, 0)) (by (with_reducible repeat (first | refine bN_ ?_ _ | refine bD_ ?_ | refine bA_ ?_ _)); exact BK189.out) hb); have n3_ := aM_ (blk_below (g := gb204) (o := .cells #[.slice Ao22 t197.length co22, .bool t200, .string t201, .string t202] 26 (0, 0)) (by (with_reducible repeat (first | refine bN_ ?_ _ | refine bD_ ?_ | refine bA_ ?_ _)); exact BK204.out) hb); have n4_ := aM_ (below_step (by repeat (first | (with_reducible first | exact HB.out | apply bB_ | apply wN_ | apply bE_ | refine bS_ ?_ GE189.out | refine bS_ ?_ GE204.out) | exact HB.out)) hb); clear HO_205000; clear BK189; clear BK204; clear HB; have HO_205000 := n0_; have HO207 := n1_; have BK189 := n2_; have BK204 := n3_; have HB := n4_; clear n0_ n1_ n2_ n3_ n4_; (try clear hb); (try clear hb2); (try clear hk); (try clear hi); (try clear ho0); obtain ⟨Ao42, co42, eo42⟩ := Kd.R_slice HO207.out; subst eo42; have hnb43 := NB189_204.out; have hnc43 := NB204_189.out; have hcz44_0 : w41.cell? ⟨gb189, 0, none⟩ = some (.slice none 0 0) := (bC_ BK189.out 0).trans rfl; have hcz44_1 : w41.cell? ⟨gb189, 1, none⟩ = some (.bool false) := (bC_ BK189.out 1).trans rfl; have hcz44_2 : w41.cell? ⟨gb189, 2, none⟩ = some (.string (⟨#[]⟩ : ByteArray)) := (bC_ BK189.out 2).trans rfl; have hcz44_3 : w41.cell? ⟨gb189, 3, none⟩ = some (.string (⟨#[]⟩ : ByteArray)) := (bC_ BK189.out 3).trans rfl; have hfz44_0 := bF_ BK189.out 0; have hfz44_1 := bF_ BK189.out 1; have hfz44_2 := bF_ BK189.out 2; have hfz44_3 := bF_ BK189.out 3))
            refine bodyPost_ret (results_ctt rfl _ _ gb189 26 #[.slice Ao42 t205.length co42, .bool t208, .string t209, .string t210] (0, 0) _ rfl (by (with_reducible repeat (first | refine bN_ ?_ _ | refine bD_ ?_ | refine bA_ ?_ _)); refine blk_put (cs := #[.slice Ao42 t205.length co42, .bool t208, .string t209, .string t210]) ?_ 3 _ rfl; (with_reducible repeat (first | refine bN_ ?_ _ | refine bD_ ?_ | refine bA_ ?_ _)); refine blk_put (cs := #[.slice Ao42 t205.length co42, .bool t208, .string t209, .string t210]) ?_ 2 _ rfl; (with_reducible repeat (first | refine bN_ ?_ _ | refine bD_ ?_ | refine bA_ ?_ _)); refine blk_put (cs := #[.slice Ao42 t205.length co42, .bool t208, .string t209, .string t210]) ?_ 1 _ rfl; (with_reducible repeat (first | refine bN_ ?_ _ | refine bD_ ?_ | refine bA_ ?_ _)); refine blk_put (cs := #[.slice Ao42 t205.length co42, .bool t208, .string t209, .string t210]) ?_ 0 _ rfl; (with_reducible repeat (first | refine bN_ ?_ _ | refine bD_ ?_ | refine bA_ ?_ _)); refine blk_put (cs := #[.slice Ao42 t205.length co42, .bool t208, .string t209, .string (⟨#[]⟩ : ByteArray)]) ?_ 3 _ rfl; (with_reducible repeat (first | refine bN_ ?_ _ | refine bD_ ?_ | refine bA_ ?_ _)); refine blk_put (cs := #[.slice Ao42 t205.length co42, .bool t208, .string (⟨#[]⟩ : ByteArray), .string (⟨#[]⟩ : ByteArray)]) ?_ 2 _ rfl; (with_reducible repeat (first | refine bN_ ?_ _ | refine bD_ ?_ | refine bA_ ?_ _)); refine blk_put (cs := #[.slice Ao42 t205.length co42, .bool false, .string (⟨#[]⟩ : ByteArray), .string (⟨#[]⟩ : ByteArray)]) ?_ 1 _ rfl; (with_reducible repeat (first | refine bN_ ?_ _ | refine bD_ ?_ | refine bA_ ?_ _)); refine blk_put (cs := #[.slice none 0 0, .bool false, .string (⟨#[]⟩ : ByteArray), .string (⟨#[]⟩ : ByteArray)]) ?_ 0 _ rfl; (with_reducible repeat (first | refine bN_ ?_ _ | refine bD_ ?_ | refine bA_ ?_ _)); exact BK189.out) Tryd.underlying26 rfl (by kernel_rfl)) rfl ?_
            exact ⟨_, by first | rfl | (simp [errW_none, errW_some] <;> rfl) | (simp [*, errW_none, errW_some] <;> rfl), by (with_reducible repeat (first | apply kA_ | apply kN_ | apply kD_)); exact Kd.R_mono (Kd.R_far (p := ⟨gb189, 3, none⟩) (Kd.R_far (p := ⟨gb189, 2, none⟩) (Kd.R_far (p := ⟨gb189, 1, none⟩) (Kd.R_far (p := ⟨gb189, 0, none⟩) (Kd.R_far (p := ⟨gb189, 3, none⟩) (Kd.R_far (p := ⟨gb189, 2, none⟩) (Kd.R_far (p := ⟨gb189, 1, none⟩) (Kd.R_far (p := ⟨gb189, 0, none⟩) (Kd.R_types HO207.out BK189.out (by decide)) (fun _ hk => hk.2) (.slice Ao42 t205.length co42)) (fun _ hk => hk.2) (.bool t208)) (fun _ hk => hk.2) (.string t209)) (fun _ hk => hk.2) (.string t210)) (fun _ hk => hk.2) (.slice Ao42 t205.length co42)) (fun _ hk => hk.2) (.bool t208)) (fun _ hk => hk.2) (.string t209)) (fun _ hk => hk.2) (.string t210)) (fun _ hk => trivial), by repeat (first | (with_reducible first | exact HB.out | apply bB_ | apply wN_ | apply bE_ | refine bS_ ?_ GE189.out | refine bS_ ?_ GE204.out) | exact HB.out)⟩
          ·
           replace c31 := Bool.eq_false_iff.mpr c31
           subst c31
           have H1 : (some (t205, t208, t209, t210, false, t212)) = some (r1, r2, r3, r4, r5, r6) := by rw [if_neg (show ¬ (false = true) by decide)] at H; exact H
           clear H
           have H := H1
           clear H1
           simp only [Option.some.injEq, Prod.mk.injEq] at H
           obtain ⟨rfl, rfl, rfl, rfl, rfl, rfl⟩ := H
           go_wp2_with (first | ((with_reducible refine gate_callee (f := 41) rfl ?_); refine goesL_ (some 53) rfl rfl Tryd.func41 (by kernel_rfl) rfl #[.string a1] rfl (by (try simp only [List.map_toArray, List.map_cons, List.map_nil]); first | done | rfl | (simp only [List.length_drop, List.length_take]; rfl)) ?_; (with_reducible refine (spec_VerGeneric.calls kj18 a1 t205 t208 t209 t210 false t212 _ A30.out).mono ?_); rintro e w45 ⟨v206, rfl, ho0, hb⟩; refine ⟨_, rfl, ?_⟩; have n0_ := aM_ (Kd.R_elder' (by (with_reducible repeat (first | apply kA_ | apply kN_ | apply kD_)); exact HO_205000.out) (Kd.R_base ho0) hb); have n1_ := aM_ (Kd.R_lower (Kd.R_new' ho0 (Kd.R_lt (by (with_reducible repeat (first | apply kA_ | apply kN_ | apply kD_)); exact HO_205000.out))) (below_size (by repeat (first | (with_reducible first | exact HB.out | apply bB_ | apply wN_ | apply bE_ | refine bS_ ?_ GE189.out | refine bS_ ?_ GE204.out) | exact HB.out)))); have n2_ := aM_ (blk_below (g := gb189) (o := .cells #[.slice none 0 0, .bool false, .string (⟨#[]⟩ : ByteArray), .string (⟨#[]⟩ : ByteArray)] 26 (0, 0)) (by (with_reducible repeat (first | refine bN_ ?_ _ | refine bD_ ?_ | refine bA_ ?_ _)); exact BK189.out) hb); have n3_ := aM_ (blk_below (g := gb204) (o := .cells #[.slice Ao22 t197.length co22, .bool t200, .string t201, .string t202] 26 (0, 0)) (by (with_reducible repeat (first | refine bN_ ?_ _ | refine bD_ ?_ | refine bA_ ?_ _)); exact BK204.out) hb); have n4_ := aM_ (below_step (by repeat (first | (with_reducible first | exact HB.out | apply bB_ | apply wN_ | apply bE_ | refine bS_ ?_ GE189.out | refine bS_ ?_ GE204.out) | exact HB.out)) hb); clear HO_205000; clear BK189; clear BK204; clear HB; have HO_205000 := n0_; have HO207 := n1_; have BK189 := n2_; have BK204 := n3_; have HB := n4_; clear n0_ n1_ n2_ n3_ n4_; (try clear hb); (try clear hb2); (try clear hk); (try clear hi); (try clear ho0); obtain ⟨Ao46, co46, eo46⟩ := Kd.R_slice HO207.out; subst eo46; have hnb47 := NB189_204.out; have hnc47 := NB204_189.out; have hcz48_0 : w45.cell? ⟨gb189, 0, none⟩ = some (.slice none 0 0) := (bC_ BK189.out 0).trans rfl; have hcz48_1 : w45.cell? ⟨gb189, 1, none⟩ = some (.bool false) := (bC_ BK189.out 1).trans rfl; have hcz48_2 : w45.cell? ⟨gb189, 2, none⟩ = some (.string (⟨#[]⟩ : ByteArray)) := (bC_ BK189.out 2).trans rfl; have hcz48_3 : w45.cell? ⟨gb189, 3, none⟩ = some (.string (⟨#[]⟩ : ByteArray)) := (bC_ BK189.out 3).trans rfl; have hfz48_0 := bF_ BK189.out 0; have hfz48_1 := bF_ BK189.out 1; have hfz48_2 := bF_ BK189.out 2; have hfz48_3 := bF_ BK189.out 3))
           refine bodyPost_ret (results_ctt rfl _ _ gb189 26 #[.slice Ao46 t205.length co46, .bool t208, .string t209, .string t210] (0, 0) _ rfl (by (with_reducible repeat (first | refine bN_ ?_ _ | refine bD_ ?_ | refine bA_ ?_ _)); refine blk_put (cs := #[.slice Ao46 t205.length co46, .bool t208, .string t209, .string t210]) ?_ 3 _ rfl; (with_reducible repeat (first | refine bN_ ?_ _ | refine bD_ ?_ | refine bA_ ?_ _)); refine blk_put (cs := #[.slice Ao46 t205.length co46, .bool t208, .string t209, .string t210]) ?_ 2 _ rfl; (with_reducible repeat (first | refine bN_ ?_ _ | refine bD_ ?_ | refine bA_ ?_ _)); refine blk_put (cs := #[.slice Ao46 t205.length co46, .bool t208, .string t209, .string t210]) ?_ 1 _ rfl; (with_reducible repeat (first | refine bN_ ?_ _ | refine bD_ ?_ | refine bA_ ?_ _)); refine blk_put (cs := #[.slice Ao46 t205.length co46, .bool t208, .string t209, .string t210]) ?_ 0 _ rfl; (with_reducible repeat (first | refine bN_ ?_ _ | refine bD_ ?_ | refine bA_ ?_ _)); refine blk_put (cs := #[.slice Ao46 t205.length co46, .bool t208, .string t209, .string (⟨#[]⟩ : ByteArray)]) ?_ 3 _ rfl; (with_reducible repeat (first | refine bN_ ?_ _ | refine bD_ ?_ | refine bA_ ?_ _)); refine blk_put (cs := #[.slice Ao46 t205.length co46, .bool t208, .string (⟨#[]⟩ : ByteArray), .string (⟨#[]⟩ : ByteArray)]) ?_ 2 _ rfl; (with_reducible repeat (first | refine bN_ ?_ _ | refine bD_ ?_ | refine bA_ ?_ _)); refine blk_put (cs := #[.slice Ao46 t205.length co46, .bool false, .string (⟨#[]⟩ : ByteArray), .string (⟨#[]⟩ : ByteArray)]) ?_ 1 _ rfl; (with_reducible repeat (first | refine bN_ ?_ _ | refine bD_ ?_ | refine bA_ ?_ _)); refine blk_put (cs := #[.slice none 0 0, .bool false, .string (⟨#[]⟩ : ByteArray), .string (⟨#[]⟩ : ByteArray)]) ?_ 0 _ rfl; (with_reducible repeat (first | refine bN_ ?_ _ | refine bD_ ?_ | refine bA_ ?_ _)); exact BK189.out) Tryd.underlying26 rfl (by kernel_rfl)) rfl ?_
           exact ⟨_, by first | rfl | (simp [errW_none, errW_some] <;> rfl) | (simp [*, errW_none, errW_some] <;> rfl), by (with_reducible repeat (first | apply kA_ | apply kN_ | apply kD_)); exact Kd.R_mono (Kd.R_far (p := ⟨gb189, 3, none⟩) (Kd.R_far (p := ⟨gb189, 2, none⟩) (Kd.R_far (p := ⟨gb189, 1, none⟩) (Kd.R_far (p := ⟨gb189, 0, none⟩) (Kd.R_far (p := ⟨gb189, 3, none⟩) (Kd.R_far (p := ⟨gb189, 2, none⟩) (Kd.R_far (p := ⟨gb189, 1, none⟩) (Kd.R_far (p := ⟨gb189, 0, none⟩) (Kd.R_types HO207.out BK189.out (by decide)) (fun _ hk => hk.2) (.slice Ao46 t205.length co46)) (fun _ hk => hk.2) (.bool t208)) (fun _ hk => hk.2) (.string t209)) (fun _ hk => hk.2) (.string t210)) (fun _ hk => hk.2) (.slice Ao46 t205.length co46)) (fun _ hk => hk.2) (.bool t208)) (fun _ hk => hk.2) (.string t209)) (fun _ hk => hk.2) (.string t210)) (fun _ hk => trivial), by repeat (first | (with_reducible first | exact HB.out | apply bB_ | apply wN_ | apply bE_ | refine bS_ ?_ GE189.out | refine bS_ ?_ GE204.out) | exact HB.out)⟩
      ·
       replace c17 := Bool.eq_false_iff.mpr c17
       subst c17
       have H1 : ((spec_VerGeneric.f kj14 a1).bind fun bt216 => (if bt216.2.2.2.2.1 = true then (if a0 = 3 then (if 2 ≤ (bt216.1.length : Int) then (some ((bt216.1.take (2 : Int).toNat), bt216.2.1, bt216.2.2.1, bt216.2.2.2.1, bt216.2.2.2.2.1, bt216.2.2.2.2.2)) else (none)) else (some (bt216.1, bt216.2.1, bt216.2.2.1, bt216.2.2.2.1, bt216.2.2.2.2.1, bt216.2.2.2.2.2))) else (some (bt216.1, bt216.2.1, bt216.2.2.1, bt216.2.2.2.1, bt216.2.2.2.2.1, bt216.2.2.2.2.2)))) = some (r1, r2, r3, r4, r5, r6) := by rw [if_neg (show ¬ (false = true) by decide)] at H; exact H
       clear H
       have H := H1
       clear H1
       replace H := Option.bind_eq_some_iff.mp H
       obtain ⟨⟨t216, t219, t220, t221, t222, t223⟩, A490, H⟩ := H
       replace H : (if t222 = true then (if a0 = 3 then (if 2 ≤ (t216.length : Int) then (some ((t216.take (2 : Int).toNat), t219, t220, t221, t222, t223)) else (none)) else (some (t216, t219, t220, t221, t222, t223))) else (some (t216, t219, t220, t221, t222, t223))) = some (r1, r2, r3, r4, r5, r6) := H
       have A49 := aM_ A490
       clear A490
       by_cases c50 : t222 = true
       ·
        subst c50
        have H1 : (if a0 = 3 then (if 2 ≤ (t216.length : Int) then (some ((t216.take (2 : Int).toNat), t219, t220, t221, true, t223)) else (none)) else (some (t216, t219, t220, t221, true, t223))) = some (r1, r2, r3, r4, r5, r6) := by rw [if_pos rfl] at H; exact H
        clear H
        have H := H1
        clear H1
        by_cases c51 : a0 = 3
        ·
         rw [if_pos c51] at H
         have c51b0 : (a0 == 3) = true := beq_iff_eq.mpr c51
         have c51b1 : (a0 != 3) = false := bne_eq_false_iff_eq.mpr c51
         clear c51
         by_cases c52 : 2 ≤ (t216.length : Int)
         ·
          rw [if_pos c52] at H
          have c52b0 := eq_true c52
          have c52b1 : decide (2 ≤ (t216.length : Int)) = true := decide_eq_true c52
          clear c52
          obtain ⟨y224, hy224⟩ : ∃ y_ : List Int, y_ = (t216.take (2 : Int).toNat) := ⟨_, rfl⟩
          replace H : (some (y224, t219, t220, t221, true, t223)) = some (r1, r2, r3, r4, r5, r6) := by first | (rw [hy224]; with_reducible exact H) | (have H2_ := (Option.bind_some _ _).symm.trans H; rw [hy224]; with_reducible exact H2_) | (have H2_ := (Option.bind_some _ _).symm.trans H; with_reducible exact H2_) | with_reducible exact H | (rw [hy224]; exact H) | exact H
          have Ny224 := aM_ hy224
          clear hy224
          simp only [Option.some.injEq, Prod.mk.injEq] at H
          obtain ⟨rfl, rfl, rfl, rfl, rfl, rfl⟩ := H
          go_wp2_with (first | ((with_reducible refine gate_callee (f := 41) rfl ?_); refine goesL_ (some 53) rfl rfl Tryd.func41 (by kernel_rfl) rfl #[.string a1] rfl (by (try simp only [List.map_toArray, List.map_cons, List.map_nil]); first | done | rfl | (simp only [List.length_drop, List.length_take]; rfl)) ?_; (with_reducible refine (spec_VerGeneric.calls kj14 a1 t216 t219 t220 t221 true t223 _ A49.out).mono ?_); rintro e w53 ⟨v217, rfl, ho0, hb⟩; refine ⟨_, rfl, ?_⟩; have n0_ := aM_ (Kd.R_lower ho0 (below_size (by repeat (first | (with_reducible first | exact HB.out | apply bB_ | apply wN_ | apply bE_ | refine bS_ ?_ GE189.out) | exact HB.out)))); have n1_ := aM_ (blk_below (g := gb189) (o := .cells #[.slice none 0 0, .bool false, .string (⟨#[]⟩ : ByteArray), .string (⟨#[]⟩ : ByteArray)] 26 (0, 0)) (by (with_reducible repeat (first | refine bN_ ?_ _ | refine bD_ ?_ | refine bA_ ?_ _)); exact BK189.out) hb); have n2_ := aM_ (below_step (by repeat (first | (with_reducible first | exact HB.out | apply bB_ | apply wN_ | apply bE_ | refine bS_ ?_ GE189.out) | exact HB.out)) hb); clear BK189; clear HB; have HO218 := n0_; have BK189 := n1_; have HB := n2_; clear n0_ n1_ n2_; (try clear hb); (try clear hb2); (try clear hk); (try clear hi); (try clear ho0); obtain ⟨Ao54, co54, eo54⟩ := Kd.R_slice HO218.out; subst eo54; have hcz55_0 : w53.cell? ⟨gb189, 0, none⟩ = some (.slice none 0 0) := (bC_ BK189.out 0).trans rfl; have hcz55_1 : w53.cell? ⟨gb189, 1, none⟩ = some (.bool false) := (bC_ BK189.out 1).trans rfl; have hcz55_2 : w53.cell? ⟨gb189, 2, none⟩ = some (.string (⟨#[]⟩ : ByteArray)) := (bC_ BK189.out 2).trans rfl; have hcz55_3 : w53.cell? ⟨gb189, 3, none⟩ = some (.string (⟨#[]⟩ : ByteArray)) := (bC_ BK189.out 3).trans rfl; have hfz55_0 := bF_ BK189.out 0; have hfz55_1 := bF_ BK189.out 1; have hfz55_2 := bF_ BK189.out 2; have hfz55_3 := bF_ BK189.out 3) | ((with_reducible refine gate_store (t := 26) (p := 4) rfl ?_); refine store_event (t := 26) (p := 4) (v := ?vo_w56) (w1 := ((((w53.setCell ⟨gb189, 0, none⟩ (.slice Ao54 t216.length co54)).setCell ⟨gb189, 1, none⟩ (.bool t219)).setCell ⟨gb189, 2, none⟩ (.string t220)).setCell ⟨gb189, 3, none⟩ (.string t221))) ?hg ?ho ?hn ?hr ?_; (case ho => rfl); (case hg => rfl); (case hn => rfl); (case hr => first | (go_simp; done) | (go_simp; rfl)); intro w56 hw; have n0_ : Aside0 (Kd.R (Kd.int .u64) 22 w56 w.heap.size (fun _ => True) (.slice Ao54 t216.length co54) t216) := ⟨(by rw [hw]; exact (by (with_reducible repeat (first | apply kA_ | apply kN_ | apply kD_)); exact Kd.R_mono (Kd.R_far (p := ⟨gb189, 3, none⟩) (Kd.R_far (p := ⟨gb189, 2, none⟩) (Kd.R_far (p := ⟨gb189, 1, none⟩) (Kd.R_far (p := ⟨gb189, 0, none⟩) (Kd.R_types HO218.out BK189.out (by decide)) (fun _ hk => hk.2) (.slice Ao54 t216.length co54)) (fun _ hk => hk.2) (.bool t219)) (fun _ hk => hk.2) (.string t220)) (fun _ hk => hk.2) (.string t221)) (fun _ hk => trivial)))⟩; have n1_ : Aside0 (w56.heap[gb189]? = some (.cells #[.slice Ao54 t216.length co54, .bool t219, .string t220, .string t221] 26 (0, 0))) := ⟨(by rw [hw]; exact (by (with_reducible repeat (first | refine bN_ ?_ _ | refine bD_ ?_ | refine bA_ ?_ _)); refine blk_put (cs := #[.slice Ao54 t216.length co54, .bool t219, .string t220, .string (⟨#[]⟩ : ByteArray)]) ?_ 3 _ rfl; (with_reducible repeat (first | refine bN_ ?_ _ | refine bD_ ?_ | refine bA_ ?_ _)); refine blk_put (cs := #[.slice Ao54 t216.length co54, .bool t219, .string (⟨#[]⟩ : ByteArray), .string (⟨#[]⟩ : ByteArray)]) ?_ 2 _ rfl; (with_reducible repeat (first | refine bN_ ?_ _ | refine bD_ ?_ | refine bA_ ?_ _)); refine blk_put (cs := #[.slice Ao54 t216.length co54, .bool false, .string (⟨#[]⟩ : ByteArray), .string (⟨#[]⟩ : ByteArray)]) ?_ 1 _ rfl; (with_reducible repeat (first | refine bN_ ?_ _ | refine bD_ ?_ | refine bA_ ?_ _)); refine blk_put (cs := #[.slice none 0 0, .bool false, .string (⟨#[]⟩ : ByteArray), .string (⟨#[]⟩ : ByteArray)]) ?_ 0 _ rfl; (with_reducible repeat (first | refine bN_ ?_ _ | refine bD_ ?_ | refine bA_ ?_ _)); exact BK189.out))⟩; have n2_ : Aside0 (Below w.heap.size w w56) := ⟨(by rw [hw]; exact (by repeat (first | (with_reducible first | exact HB.out | apply bB_ | apply wN_ | apply bE_ | refine bS_ ?_ GE189.out) | exact HB.out)))⟩; clear hw; clear HO218; clear BK189; clear HB; have HO218 := n0_; have BK189 := n1_; have HB := n2_; clear n0_ n1_ n2_; have hcz57_0 : w56.cell? ⟨gb189, 0, none⟩ = some (.slice Ao54 t216.length co54) := (bC_ BK189.out 0).trans rfl; have hcz57_1 : w56.cell? ⟨gb189, 1, none⟩ = some (.bool t219) := (bC_ BK189.out 1).trans rfl; have hcz57_2 : w56.cell? ⟨gb189, 2, none⟩ = some (.string t220) := (bC_ BK189.out 2).trans rfl; have hcz57_3 : w56.cell? ⟨gb189, 3, none⟩ = some (.string t221) := (bC_ BK189.out 3).trans rfl; have hfz57_0 := bF_ BK189.out 0; have hfz57_1 := bF_ BK189.out 1; have hfz57_2 := bF_ BK189.out 2; have hfz57_3 := bF_ BK189.out 3; have q58 : (2 : Int) ≤ ((t216.length : Int) : Int) := of_decide_eq_true (by first | (with_reducible assumption) | assumption); obtain ⟨i058, hi058, _, hsz58, _⟩ := info_parts info22; have hcut58 := cut_to (P := Tryd.prog) 24 22 .i64 Tryd.underlying24 hi058 Ao54 t216.length co54 2 (by omega) q58 (Kd.R_reads' HO218.out).2.1; have hr58 := Kd.R_take (m := (2 : Int).toNat) HO218.out (by omega); have hy58 : y224.length = (2 : Int).toNat := (by rw [Ny224.out, List.length_take]; omega); rw [← Ny224.out] at hr58; rw [← hy58] at hr58 hcut58; clear hy58 hi058 hsz58 HO218; have HO226 := aM_ hr58; clear hr58; replace q58 := eq_true q58))
          refine bodyPost_ret (results_ctt rfl _ _ gb189 26 #[.slice Ao54 y224.length co54, .bool t219, .string t220, .string t221] (0, 0) _ rfl (by (with_reducible repeat (first | refine bN_ ?_ _ | refine bD_ ?_ | refine bA_ ?_ _)); refine blk_put (cs := #[.slice Ao54 y224.length co54, .bool t219, .string t220, .string t221]) ?_ 3 _ rfl; (with_reducible repeat (first | refine bN_ ?_ _ | refine bD_ ?_ | refine bA_ ?_ _)); refine blk_put (cs := #[.slice Ao54 y224.length co54, .bool t219, .string t220, .string t221]) ?_ 2 _ rfl; (with_reducible repeat (first | refine bN_ ?_ _ | refine bD_ ?_ | refine bA_ ?_ _)); refine blk_put (cs := #[.slice Ao54 y224.length co54, .bool t219, .string t220, .string t221]) ?_ 1 _ rfl; (with_reducible repeat (first | refine bN_ ?_ _ | refine bD_ ?_ | refine bA_ ?_ _)); refine blk_put (cs := #[.slice Ao54 y224.length co54, .bool t219, .string t220, .string t221]) ?_ 0 _ rfl; (with_reducible repeat (first | refine bN_ ?_ _ | refine bD_ ?_ | refine bA_ ?_ _)); refine blk_put (cs := #[.slice Ao54 t216.length co54, .bool t219, .string t220, .string t221]) ?_ 0 _ rfl; (with_reducible repeat (first | refine bN_ ?_ _ | refine bD_ ?_ | refine bA_ ?_ _)); exact BK189.out) Tryd.underlying26 rfl (by kernel_rfl)) rfl ?_
          exact ⟨_, by first | rfl | (simp [errW_none, errW_some] <;> rfl) | (simp [*, errW_none, errW_some] <;> rfl), by (with_reducible repeat (first | apply kA_ | apply kN_ | apply kD_)); exact Kd.R_mono (Kd.R_far (p := ⟨gb189, 3, none⟩) (Kd.R_far (p := ⟨gb189, 2, none⟩) (Kd.R_far (p := ⟨gb189, 1, none⟩) (Kd.R_far (p := ⟨gb189, 0, none⟩) (Kd.R_far (p := ⟨gb189, 0, none⟩) (Kd.R_types HO226.out BK189.out (by decide)) (fun _ hk => hk.2) (.slice Ao54 y224.length co54)) (fun _ hk => hk.2) (.slice Ao54 y224.length co54)) (fun _ hk => hk.2) (.bool t219)) (fun _ hk => hk.2) (.string t220)) (fun _ hk => hk.2) (.string t221)) (fun _ hk => trivial), by repeat (first | (with_reducible first | exact HB.out | apply bB_ | apply wN_ | apply bE_ | refine bS_ ?_ GE189.out) | exact HB.out)⟩
         ·
          rw [if_neg c52] at H
          exact absurd H (by simp)
        ·
         rw [if_neg c51] at H
         have c51b0 : (a0 == 3) = false := beq_eq_false_iff_ne.mpr c51
         have c51b1 : (a0 != 3) = true := bne_iff_ne.mpr c51
         simp only [Option.some.injEq, Prod.mk.injEq] at H
         obtain ⟨rfl, rfl, rfl, rfl, rfl, rfl⟩ := H
         go_wp2_with (first | ((with_reducible refine gate_callee (f := 41) rfl ?_); refine goesL_ (some 53) rfl rfl Tryd.func41 (by kernel_rfl) rfl #[.string a1] rfl (by (try simp only [List.map_toArray, List.map_cons, List.map_nil]); first | done | rfl | (simp only [List.length_drop, List.length_take]; rfl)) ?_; (with_reducible refine (spec_VerGeneric.calls kj14 a1 t216 t219 t220 t221 true t223 _ A49.out).mono ?_); rintro e w59 ⟨v217, rfl, ho0, hb⟩; refine ⟨_, rfl, ?_⟩; have n0_ := aM_ (Kd.R_lower ho0 (below_size (by repeat (first | (with_reducible first | exact HB.out | apply bB_ | apply wN_ | apply bE_ | refine bS_ ?_ GE189.out) | exact HB.out)))); have n1_ := aM_ (blk_below (g := gb189) (o := .cells #[.slice none 0 0, .bool false, .string (⟨#[]⟩ : ByteArray), .string (⟨#[]⟩ : ByteArray)] 26 (0, 0)) (by (with_reducible repeat (first | refine bN_ ?_ _ | refine bD_ ?_ | refine bA_ ?_ _)); exact BK189.out) hb); have n2_ := aM_ (below_step (by repeat (first | (with_reducible first | exact HB.out | apply bB_ | apply wN_ | apply bE_ | refine bS_ ?_ GE189.out) | exact HB.out)) hb); clear BK189; clear HB; have HO218 := n0_; have BK189 := n1_; have HB := n2_; clear n0_ n1_ n2_; (try clear hb); (try clear hb2); (try clear hk); (try clear hi); (try clear ho0); obtain ⟨Ao60, co60, eo60⟩ := Kd.R_slice HO218.out; subst eo60; have hcz61_0 : w59.cell? ⟨gb189, 0, none⟩ = some (.slice none 0 0) := (bC_ BK189.out 0).trans rfl; have hcz61_1 : w59.cell? ⟨gb189, 1, none⟩ = some (.bool false) := (bC_ BK189.out 1).trans rfl; have hcz61_2 : w59.cell? ⟨gb189, 2, none⟩ = some (.string (⟨#[]⟩ : ByteArray)) := (bC_ BK189.out 2).trans rfl; have hcz61_3 : w59.cell? ⟨gb189, 3, none⟩ = some (.string (⟨#[]⟩ : ByteArray)) := (bC_ BK189.out 3).trans rfl; have hfz61_0 := bF_ BK189.out 0; have hfz61_1 := bF_ BK189.out 1; have hfz61_2 := bF_ BK189.out 2; have hfz61_3 := bF_ BK189.out 3))
         refine bodyPost_ret (results_ctt rfl _ _ gb189 26 #[.slice Ao60 t216.length co60, .bool t219, .string t220, .string t221] (0, 0) _ rfl (by (with_reducible repeat (first | refine bN_ ?_ _ | refine bD_ ?_ | refine bA_ ?_ _)); refine blk_put (cs := #[.slice Ao60 t216.length co60, .bool t219, .string t220, .string t221]) ?_ 3 _ rfl; (with_reducible repeat (first | refine bN_ ?_ _ | refine bD_ ?_ | refine bA_ ?_ _)); refine blk_put (cs := #[.slice Ao60 t216.length co60, .bool t219, .string t220, .string t221]) ?_ 2 _ rfl; (with_reducible repeat (first | refine bN_ ?_ _ | refine bD_ ?_ | refine bA_ ?_ _)); refine blk_put (cs := #[.slice Ao60 t216.length co60, .bool t219, .string t220, .string t221]) ?_ 1 _ rfl; (with_reducible repeat (first | refine bN_ ?_ _ | refine bD_ ?_ | refine bA_ ?_ _)); refine blk_put (cs := #[.slice Ao60 t216.length co60, .bool t219, .string t220, .string t221]) ?_ 0 _ rfl; (with_reducible repeat (first | refine bN_ ?_ _ | refine bD_ ?_ | refine bA_ ?_ _)); refine blk_put (cs := #[.slice Ao60 t216.length co60, .bool t219, .string t220, .string (⟨#[]⟩ : ByteArray)]) ?_ 3 _ rfl; (with_reducible repeat (first | refine bN_ ?_ _ | refine bD_ ?_ | refine bA_ ?_ _)); refine blk_put (cs := #[.slice Ao60 t216.length co60, .bool t219, .string (⟨#[]⟩ : ByteArray), .string (⟨#[]⟩ : ByteArray)]) ?_ 2 _ rfl; (with_reducible repeat (first | refine bN_ ?_ _ | refine bD_ ?_ | refine bA_ ?_ _)); refine blk_put (cs := #[.slice Ao60 t216.length co60, .bool false, .string (⟨#[]⟩ : ByteArray), .string (⟨#[]⟩ : ByteArray)]) ?_ 1 _ rfl; (with_reducible repeat (first | refine bN_ ?_ _ | refine bD_ ?_ | refine bA_ ?_ _)); refine blk_put (cs := #[.slice none 0 0, .bool false, .string (⟨#[]⟩ : ByteArray), .string (⟨#[]⟩ : ByteArray)]) ?_ 0 _ rfl; (with_reducible repeat (first | refine bN_ ?_ _ | refine bD_ ?_ | refine bA_ ?_ _)); exact BK189.out) Tryd.underlying26 rfl (by kernel_rfl)) rfl ?_
         exact ⟨_, by first | rfl | (simp [errW_none, errW_some] <;> rfl) | (simp [*, errW_none, errW_some] <;> rfl), by (with_reducible repeat (first | apply kA_ | apply kN_ | apply kD_)); exact Kd.R_mono (Kd.R_far (p := ⟨gb189, 3, none⟩) (Kd.R_far (p := ⟨gb189, 2, none⟩) (Kd.R_far (p := ⟨gb189, 1, none⟩) (Kd.R_far (p := ⟨gb189, 0, none⟩) (Kd.R_far (p := ⟨gb189, 3, none⟩) (Kd.R_far (p := ⟨gb189, 2, none⟩) (Kd.R_far (p := ⟨gb189, 1, none⟩) (Kd.R_far (p := ⟨gb189, 0, none⟩) (Kd.R_types HO218.out BK189.out (by decide)) (fun _ hk => hk.2) (.slice Ao60 t216.length co60)) (fun _ hk => hk.2) (.bool t219)) (fun _ hk => hk.2) (.string t220)) (fun _ hk => hk.2) (.string t221)) (fun _ hk => hk.2) (.slice Ao60 t216.length co60)) (fun _ hk => hk.2) (.bool t219)) (fun _ hk => hk.2) (.string t220)) (fun _ hk => hk.2) (.string t221)) (fun _ hk => trivial), by repeat (first | (with_reducible first | exact HB.out | apply bB_ | apply wN_ | apply bE_ | refine bS_ ?_ GE189.out) | exact HB.out)⟩
       ·
        replace c50 := Bool.eq_false_iff.mpr c50
        subst c50
        have H1 : (some (t216, t219, t220, t221, false, t223)) = some (r1, r2, r3, r4, r5, r6) := by rw [if_neg (show ¬ (false = true) by decide)] at H; exact H
        clear H
        have H := H1
        clear H1
        simp only [Option.some.injEq, Prod.mk.injEq] at H
        obtain ⟨rfl, rfl, rfl, rfl, rfl, rfl⟩ := H
        go_wp2_with (first | ((with_reducible refine gate_callee (f := 41) rfl ?_); refine goesL_ (some 53) rfl rfl Tryd.func41 (by kernel_rfl) rfl #[.string a1] rfl (by (try simp only [List.map_toArray, List.map_cons, List.map_nil]); first | done | rfl | (simp only [List.length_drop, List.length_take]; rfl)) ?_; (with_reducible refine (spec_VerGeneric.calls kj14 a1 t216 t219 t220 t221 false t223 _ A49.out).mono ?_); rintro e w62 ⟨v217, rfl, ho0, hb⟩; refine ⟨_, rfl, ?_⟩; have n0_ := aM_ (Kd.R_lower ho0 (below_size (by repeat (first | (with_reducible first | exact HB.out | apply bB_ | apply wN_ | apply bE_ | refine bS_ ?_ GE189.out) | exact HB.out)))); have n1_ := aM_ (blk_below (g := gb189) (o := .cells #[.slice none 0 0, .bool false, .string (⟨#[]⟩ : ByteArray), .string (⟨#[]⟩ : ByteArray)] 26 (0, 0)) (by (with_reducible repeat (first | refine bN_ ?_ _ | refine bD_ ?_ | refine bA_ ?_ _)); exact BK189.out) hb); have n2_ := aM_ (below_step (by repeat (first | (with_reducible first | exact HB.out | apply bB_ | apply wN_ | apply bE_ | refine bS_ ?_ GE189.out) | exact HB.out)) hb); clear BK189; clear HB; have HO218 := n0_; have BK189 := n1_; have HB := n2_; clear n0_ n1_ n2_; (try clear hb); (try clear hb2); (try clear hk); (try clear hi); (try clear ho0); obtain ⟨Ao63, co63, eo63⟩ := Kd.R_slice HO218.out; subst eo63; have hcz64_0 : w62.cell? ⟨gb189, 0, none⟩ = some (.slice none 0 0) := (bC_ BK189.out 0).trans rfl; have hcz64_1 : w62.cell? ⟨gb189, 1, none⟩ = some (.bool false) := (bC_ BK189.out 1).trans rfl; have hcz64_2 : w62.cell? ⟨gb189, 2, none⟩ = some (.string (⟨#[]⟩ : ByteArray)) := (bC_ BK189.out 2).trans rfl; have hcz64_3 : w62.cell? ⟨gb189, 3, none⟩ = some (.string (⟨#[]⟩ : ByteArray)) := (bC_ BK189.out 3).trans rfl; have hfz64_0 := bF_ BK189.out 0; have hfz64_1 := bF_ BK189.out 1; have hfz64_2 := bF_ BK189.out 2; have hfz64_3 := bF_ BK189.out 3))
        refine bodyPost_ret (results_ctt rfl _ _ gb189 26 #[.slice Ao63 t216.length co63, .bool t219, .string t220, .string t221] (0, 0) _ rfl (by (with_reducible repeat (first | refine bN_ ?_ _ | refine bD_ ?_ | refine bA_ ?_ _)); refine blk_put (cs := #[.slice Ao63 t216.length co63, .bool t219, .string t220, .string t221]) ?_ 3 _ rfl; (with_reducible repeat (first | refine bN_ ?_ _ | refine bD_ ?_ | refine bA_ ?_ _)); refine blk_put (cs := #[.slice Ao63 t216.length co63, .bool t219, .string t220, .string t221]) ?_ 2 _ rfl; (with_reducible repeat (first | refine bN_ ?_ _ | refine bD_ ?_ | refine bA_ ?_ _)); refine blk_put (cs := #[.slice Ao63 t216.length co63, .bool t219, .string t220, .string t221]) ?_ 1 _ rfl; (with_reducible repeat (first | refine bN_ ?_ _ | refine bD_ ?_ | refine bA_ ?_ _)); refine blk_put (cs := #[.slice Ao63 t216.length co63, .bool t219, .string t220, .string t221]) ?_ 0 _ rfl; (with_reducible repeat (first | refine bN_ ?_ _ | refine bD_ ?_ | refine bA_ ?_ _)); refine blk_put (cs := #[.slice Ao63 t216.length co63, .bool t219, .string t220, .string (⟨#[]⟩ : ByteArray)]) ?_ 3 _ rfl; (with_reducible repeat (first | refine bN_ ?_ _ | refine bD_ ?_ | refine bA_ ?_ _)); refine blk_put (cs := #[.slice Ao63 t216.length co63, .bool t219, .string (⟨#[]⟩ : ByteArray), .string (⟨#[]⟩ : ByteArray)]) ?_ 2 _ rfl; (with_reducible repeat (first | refine bN_ ?_ _ | refine bD_ ?_ | refine bA_ ?_ _)); refine blk_put (cs := #[.slice Ao63 t216.length co63, .bool false, .string (⟨#[]⟩ : ByteArray), .string (⟨#[]⟩ : ByteArray)]) ?_ 1 _ rfl; (with_reducible repeat (first | refine bN_ ?_ _ | refine bD_ ?_ | refine bA_ ?_ _)); refine blk_put (cs := #[.slice none 0 0, .bool false, .string (⟨#[]⟩ : ByteArray), .string (⟨#[]⟩ : ByteArray)]) ?_ 0 _ rfl; (with_reducible repeat (first | refine bN_ ?_ _ | refine bD_ ?_ | refine bA_ ?_ _)); exact BK189.out) Tryd.underlying26 rfl (by kernel_rfl)) rfl ?_
        exact ⟨_, by first | rfl | (simp [errW_none, errW_some] <;> rfl) | (simp [*, errW_none, errW_some] <;> rfl), by (with_reducible repeat (first | apply kA_ | apply kN_ | apply kD_)); exact Kd.R_mono (Kd.R_far (p := ⟨gb189, 3, none⟩) (Kd.R_far (p := ⟨gb189, 2, none⟩) (Kd.R_far (p := ⟨gb189, 1, none⟩) (Kd.R_far (p := ⟨gb189, 0, none⟩) (Kd.R_far (p := ⟨gb189, 3, none⟩) (Kd.R_far (p := ⟨gb189, 2, none⟩) (Kd.R_far (p := ⟨gb189, 1, none⟩) (Kd.R_far (p := ⟨gb189, 0, none⟩) (Kd.R_types HO218.out BK189.out (by decide)) (fun _ hk => hk.2) (.slice Ao63 t216.length co63)) (fun _ hk => hk.2) (.bool t219)) (fun _ hk => hk.2) (.string t220)) (fun _ hk => hk.2) (.string t221)) (fun _ hk => hk.2) (.slice Ao63 t216.length co63)) (fun _ hk => hk.2) (.bool t219)) (fun _ hk => hk.2) (.string t220)) (fun _ hk => hk.2) (.string t221)) (fun _ hk => trivial), by repeat (first | (with_reducible first | exact HB.out | apply bB_ | apply wN_ | apply bE_ | refine bS_ ?_ GE189.out) | exact HB.out)⟩

/-! ### laws_FnVersionParse: function 5 -/
def laws_FnVersionParse.f (k : Nat) (a0 : Int) (a1 : ByteArray) : Option (Bool) := if (a1.size : Int) > 2147483647 then (some true) else ((laws_verKind.f a0).bind fun t227 => ((spec_VerParsed.f k t227 a1).bind fun bt228 => (if bt228.2.2.2.2.2 = true then ((impl_VersionParse.f t227 a1).bind fun bt237 => (if bt228.2.2.2.2.1 = true then ((spec_SameVer.f k bt228.1 bt228.2.1 bt228.2.2.1 bt228.2.2.2.1 bt237.1 bt237.2.1 bt237.2.2.1 bt237.2.2.2.1 bt237.2.2.2.2.1 bt237.2.2.2.2.2.1 bt237.2.2.2.2.2.2.1 bt237.2.2.2.2.2.2.2).bind fun t248 => (some t248)) else (some (!bt237.1)))) else (some true))))
theorem laws_FnVersionParse.mono : ∀ a0 a1 k, LeO (laws_FnVersionParse.f k a0 a1) (laws_FnVersionParse.f (k + 1) a0 a1) := by
 intro a0 a1 k
 unfold laws_FnVersionParse.f
 repeat' first
   | (with_reducible exact spec_SameVer.mono _ _ _ _ _ _ _ _ _ _ _ _ _)
   | (with_reducible exact spec_VerParsed.mono _ _ _)
   | (with_reducible exact LeO.refl _)
   | (with_reducible exact LeO.none _)
   | (with_reducible refine LeO.ite ?_ ?_)
   | (with_reducible refine LeO.bind ?_ (fun _ => ?_))
   | exact spec_SameVer.mono _ _ _ _ _ _ _ _ _ _ _ _ _
   | exact spec_VerParsed.mono _ _ _
   | exact LeO.none _
   | refine LeO.ite ?_ ?_
   | refine LeO.bind ?_ (fun _ => ?_)
set_option maxHeartbeats 8000000 in
set_option maxRecDepth 100000 in
theorem laws_FnVersionParse.calls (k : Nat) (a0 : Int) (a1 : ByteArray) (r : Bool) (w : World) (h : laws_FnVersionParse.f k a0 a1 = some r) (hgood : Pv.Good w) :
  Calls Tryd.prog 5 #[.int .i64 a0, .string a1] w fun e w' => e = .returned (.bool r) ∧ Below w.heap.size w w' := by
 have HGd := aM_ hgood
 clear hgood
 have hu26 := Tryd.underlying26
 have hu28 := Tryd.underlying28
 have HB := aM_ (Below.refl w.heap.size w)
 have H : (if (a1.size : Int) > 2147483647 then (some true) else ((laws_verKind.f a0).bind fun t227 => ((spec_VerParsed.f k t227 a1).bind fun bt228 => (if bt228.2.2.2.2.2 = true then ((impl_VersionParse.f t227 a1).bind fun bt237 => (if bt228.2.2.2.2.1 = true then ((spec_SameVer.f k bt228.1 bt228.2.1 bt228.2.2.1 bt228.2.2.2.1 bt237.1 bt237.2.1 bt237.2.2.1 bt237.2.2.2.1 bt237.2.2.2.2.1 bt237.2.2.2.2.2.1 bt237.2.2.2.2.2.2.1 bt237.2.2.2.2.2.2.2).bind fun t248 => (some t248)) else (some (!bt237.1)))) else (some true))))) = some r := h
 clear h
 by_cases c3 : (a1.size : Int) > 2147483647
 ·
  rw [if_pos c3] at H
  have c3b0 : decide (2147483647 < (a1.size : Int)) = true := decide_eq_true c3
  have c3b1 : decide (2147483647 < a1.size) = true := decide_eq_true (by omega)
  clear c3
  obtain rfl := Option.some.inj H
  go_enter Tryd.func5, Tryd.ntmps5
  go_wp2
  go_ret
  exact ⟨by first | rfl | (simp [errW_none, errW_some] <;> rfl) | (simp [*, errW_none, errW_some] <;> rfl) | (exfalso; contradiction), by repeat (first | (with_reducible first | exact HB.out | apply bB_ | apply wN_ | apply bE_) | exact HB.out)⟩
 ·
  rw [if_neg c3] at H
  have c3b0 : decide (2147483647 < (a1.size : Int)) = false := decide_eq_false c3
  have c3b1 : decide (2147483647 < a1.size) = false := decide_eq_false (by omega)
  clear c3
  replace H := Option.bind_eq_some_iff.mp H
  obtain ⟨t227, A40, H⟩ := H
  replace H : ((spec_VerParsed.f k t227 a1).bind fun bt228 => (if bt228.2.2.2.2.2 = true then ((impl_VersionParse.f t227 a1).bind fun bt237 => (if bt228.2.2.2.2.1 = true then ((spec_SameVer.f k bt228.1 bt228.2.1 bt228.2.2.1 bt228.2.2.2.1 bt237.1 bt237.2.1 bt237.2.2.1 bt237.2.2.2.1 bt237.2.2.2.2.1 bt237.2.2.2.2.2.1 bt237.2.2.2.2.2.2.1 bt237.2.2.2.2.2.2.2).bind fun t248 => (some t248)) else (some (!bt237.1)))) else (some true))) = some r := H
  have A4 := aM_ A40
  clear A40
  replace H := Option.bind_eq_some_iff.mp H
  obtain ⟨⟨t228, t231, t232, t233, t234, t235⟩, A50, H⟩ := H
  replace H : (if t235 = true then ((impl_VersionParse.f t227 a1).bind fun bt237 => (if t234 = true then ((spec_SameVer.f k t228 t231 t232 t233 bt237.1 bt237.2.1 bt237.2.2.1 bt237.2.2.2.1 bt237.2.2.2.2.1 bt237.2.2.2.2.2.1 bt237.2.2.2.2.2.2.1 bt237.2.2.2.2.2.2.2).bind fun t248 => (some t248)) else (some (!bt237.1)))) else (some true)) = some r := H
  have A5 := aM_ A50
  clear A50
  by_cases c6 : t235 = true
  ·
   subst c6
   have H1 : ((impl_VersionParse.f t227 a1).bind fun bt237 => (if t234 = true then ((spec_SameVer.f k t228 t231 t232 t233 bt237.1 bt237.2.1 bt237.2.2.1 bt237.2.2.2.1 bt237.2.2.2.2.1 bt237.2.2.2.2.2.1 bt237.2.2.2.2.2.2.1 bt237.2.2.2.2.2.2.2).bind fun t248 => (some t248)) else (some (!bt237.1)))) = some r := by rw [if_pos rfl] at H; exact H
   clear H
   have H := H1
   clear H1
   replace H := Option.bind_eq_some_iff.mp H
   obtain ⟨⟨t237, t238, t241, t242, t243, t244, t245, t246⟩, A70, H⟩ := H
   replace H : (if t234 = true then ((spec_SameVer.f k t228 t231 t232 t233 t237 t238 t241 t242 t243 t244 t245 t246).bind fun t248 => (some t248)) else (some (!t237))) = some r := H
   have A7 := aM_ A70
   clear A70
   by_cases c8 : t234 = true
   ·
    subst c8
    have H1 : ((spec_SameVer.f k t228 t231 t232 t233 t237 t238 t241 t242 t243 t244 t245 t246).bind fun t248 => (some t248)) = some r := by rw [if_pos rfl] at H; exact H
    clear H
    have H := H1
    clear H1
    replace H := Option.bind_eq_some_iff.mp H
    obtain ⟨t248, A90, H⟩ := H
    replace H : (some t248) = some r := H
    have A9 := aM_ A90
    clear A90
    obtain rfl := Option.some.inj H
    go_enter Tryd.func5, Tryd.ntmps5
    go_wp2_with (first | ((with_reducible refine gate_callee (f := 15) rfl ?_); refine goesL_ (some 13) rfl rfl Tryd.func15 (by kernel_rfl) rfl #[.int .i64 a0] rfl (by (try simp only [List.map_toArray, List.map_cons, List.map_nil]); first | done | rfl | (simp only [List.length_drop, List.length_take]; rfl)) ?_; (with_reducible refine (laws_verKind.calls a0 t227 _ A4.out).mono ?_); rintro e w' ⟨rfl, ⟨nd, rfl⟩⟩; refine ⟨_, rfl, ?_⟩) | ((with_reducible refine gate_callee (f := 16) rfl ?_); refine goesL_ (some 17) rfl rfl Tryd.func16 (by kernel_rfl) rfl #[.int .i64 t227, .string a1] rfl (by (try simp only [List.map_toArray, List.map_cons, List.map_nil]); first | done | rfl | (simp only [List.length_drop, List.length_take]; rfl)) ?_; (with_reducible refine (spec_VerParsed.calls k t227 a1 t228 t231 t232 t233 true true _ A5.out).mono ?_); rintro e w10 ⟨v229, rfl, ho0, hb⟩; refine ⟨_, rfl, ?_⟩; have n0_ := aM_ (Kd.R_lower ho0 (below_size (by repeat (first | (with_reducible first | exact HB.out | apply bB_ | apply wN_ | apply bE_) | exact HB.out)))); have n1_ := aM_ (below_step (by repeat (first | (with_reducible first | exact HB.out | apply bB_ | apply wN_ | apply bE_) | exact HB.out)) hb); clear HB; have HO230 := n0_; have HB := n1_; clear n0_ n1_; (try clear hb); (try clear hb2); (try clear hk); (try clear hi); (try clear ho0)) | ((with_reducible refine gate_dst (N := 5) rfl ?_); refine box_event ?hg (N := 5) ?hd (cs := #[.slice none 0 0, .bool false, .string (⟨#[]⟩ : ByteArray), .string (⟨#[]⟩ : ByteArray)]) (t := 26) ?hr ?_; (case hd => rfl); (case hg => rfl); (case hr => first | (go_simp; done) | (go_simp; rfl)); intro gb236 hg w11 hbox hb; have n0_ := aM_ (Kd.R_below (by (with_reducible repeat (first | apply kA_ | apply kN_ | apply kD_)); exact HO230.out) hb); have n1_ := aM_ (below_step (by repeat (first | (with_reducible first | exact HB.out | apply bB_ | apply wN_ | apply bE_) | exact HB.out)) hb); have n2_ := aM_ (hbox); have n3_ := aM_ ((by rw [hg]; exact (below_size (by repeat (first | (with_reducible first | exact HB.out | apply bB_ | apply wN_ | apply bE_) | exact HB.out))) : w.heap.size ≤ gb236)); have n4_ := aM_ ((by rw [hg]; exact (below_size (by repeat (first | (with_reducible first | exact HB.out | apply bB_ | apply wN_ | apply bE_) | exact HB.out))) : w.heap.size ≤ gb236)); clear HO230; clear HB; have HO230 := n0_; have HB := n1_; have BK236 := n2_; have GW236 := n3_; have GE236 := n4_; clear n0_ n1_ n2_ n3_ n4_; clear hb hbox hg; obtain ⟨Ao12, co12, eo12⟩ := Kd.R_slice HO230.out; subst eo12; have hcz13_0 : w11.cell? ⟨gb236, 0, none⟩ = some (.slice none 0 0) := (bC_ BK236.out 0).trans rfl; have hcz13_1 : w11.cell? ⟨gb236, 1, none⟩ = some (.bool false) := (bC_ BK236.out 1).trans rfl; have hcz13_2 : w11.cell? ⟨gb236, 2, none⟩ = some (.string (⟨#[]⟩ : ByteArray)) := (bC_ BK236.out 2).trans rfl; have hcz13_3 : w11.cell? ⟨gb236, 3, none⟩ = some (.string (⟨#[]⟩ : ByteArray)) := (bC_ BK236.out 3).trans rfl; have hfz13_0 := bF_ BK236.out 0; have hfz13_1 := bF_ BK236.out 1; have hfz13_2 := bF_ BK236.out 2; have hfz13_3 := bF_ BK236.out 3) | ((with_reducible refine gate_callee (f := 14) rfl ?_); refine goesL_ (some 25) rfl rfl Tryd.func14 (by kernel_rfl) rfl #[.int .i64 t227, .string a1] rfl (by (try simp only [List.map_toArray, List.map_cons, List.map_nil]); first | done | rfl | (simp only [List.length_drop, List.length_take]; rfl)) ?_; (with_reducible refine (impl_VersionParse.calls t227 a1 t237 t238 t241 t242 t243 t244 t245 t246 _ A7.out (HGd.out.below (by repeat (first | (with_reducible first | exact HB.out | apply bB_ | apply wN_ | apply bE_ | refine bS_ ?_ GE236.out) | exact HB.out)))).mono ?_); rintro e w14 ⟨v239, rfl, ho0, hb⟩; refine ⟨_, rfl, ?_⟩; have n0_ := aM_ (Kd.R_elder' (by (with_reducible repeat (first | apply kA_ | apply kN_ | apply kD_)); exact (Kd.R_mono (Kd.R_far (p := ⟨gb236, 3, none⟩) (Kd.R_far (p := ⟨gb236, 2, none⟩) (Kd.R_far (p := ⟨gb236, 1, none⟩) (Kd.R_far (p := ⟨gb236, 0, none⟩) (Kd.R_types HO230.out BK236.out (by decide)) (fun _ hk => hk.2) (.slice Ao12 t228.length co12)) (fun _ hk => hk.2) (.bool t231)) (fun _ hk => hk.2) (.string t232)) (fun _ hk => hk.2) (.string t233)) (fun _ h_ => h_.1))) (Kd.R_base ho0) hb); have n1_ := aM_ (Kd.R_lower (Kd.R_new' ho0 (Kd.R_lt (by (with_reducible repeat (first | apply kA_ | apply kN_ | apply kD_)); exact (Kd.R_mono (Kd.R_far (p := ⟨gb236, 3, none⟩) (Kd.R_far (p := ⟨gb236, 2, none⟩) (Kd.R_far (p := ⟨gb236, 1, none⟩) (Kd.R_far (p := ⟨gb236, 0, none⟩) (Kd.R_types HO230.out BK236.out (by decide)) (fun _ hk => hk.2) (.slice Ao12 t228.length co12)) (fun _ hk => hk.2) (.bool t231)) (fun _ hk => hk.2) (.string t232)) (fun _ hk => hk.2) (.string t233)) (fun _ h_ => h_.1))))) (below_size (by repeat (first | (with_reducible first | exact HB.out | apply bB_ | apply wN_ | apply bE_ | refine bS_ ?_ GE236.out) | exact HB.out)))); have n2_ := aM_ (blk_below (g := gb236) (o := .cells #[.slice Ao12 t228.length co12, .bool t231, .string t232, .string t233] 26 (0, 0)) (by (with_reducible repeat (first | refine bN_ ?_ _ | refine bD_ ?_ | refine bA_ ?_ _)); refine blk_put (cs := #[.slice Ao12 t228.length co12, .bool t231, .string t232, .string (⟨#[]⟩ : ByteArray)]) ?_ 3 _ rfl; (with_reducible repeat (first | refine bN_ ?_ _ | refine bD_ ?_ | refine bA_ ?_ _)); refine blk_put (cs := #[.slice Ao12 t228.length co12, .bool t231, .string (⟨#[]⟩ : ByteArray), .string (⟨#[]⟩ : ByteArray)]) ?_ 2 _ rfl; (with_reducible repeat (first | refine bN_ ?_ _ | refine bD_ ?_ | refine bA_ ?_ _)); refine blk_put (cs := #[.slice Ao12 t228.length co12, .bool false, .string (⟨#[]⟩ : ByteArray), .string (⟨#[]⟩ : ByteArray)]) ?_ 1 _ rfl; (with_reducible repeat (first | refine bN_ ?_ _ | refine bD_ ?_ | refine bA_ ?_ _)); refine blk_put (cs := #[.slice none 0 0, .bool false, .string (⟨#[]⟩ : ByteArray), .string (⟨#[]⟩ : ByteArray)]) ?_ 0 _ rfl; (with_reducible repeat (first | refine bN_ ?_ _ | refine bD_ ?_ | refine bA_ ?_ _)); exact BK236.out) hb); have n3_ := aM_ (below_step (by repeat (first | (with_reducible first | exact HB.out | apply bB_ | apply wN_ | apply bE_ | refine bS_ ?_ GE236.out) | exact HB.out)) hb); clear HO230; clear BK236; clear HB; have HO230 := n0_; have HO240 := n1_; have BK236 := n2_; have HB := n3_; clear n0_ n1_ n2_ n3_; (try clear hb); (try clear hb2); (try clear hk); (try clear hi); (try clear ho0)) | ((with_reducible refine gate_dst (N := 8) rfl ?_); refine box_event ?hg (N := 8) ?hd (cs := #[.bool false, .slice none 0 0, .string (⟨#[]⟩ : ByteArray), .string (⟨#[]⟩ : ByteArray), .string (⟨#[]⟩ : ByteArray), .int .u64 0, .int .u64 0, .int .u64 0]) (t := 28) ?hr ?_; (case hd => rfl); (case hg => rfl); (case hr => first | (go_simp; done) | (go_simp; rfl)); intro gb247 hg w15 hbox hb; have n0_ := aM_ (Kd.R_below (by (with_reducible repeat (first | apply kA_ | apply kN_ | apply kD_)); exact HO230.out) hb); have n1_ := aM_ (Kd.R_below (by (with_reducible repeat (first | apply kA_ | apply kN_ | apply kD_)); exact HO240.out) hb); have n2_ := aM_ (blk_below (g := gb236) (o := .cells #[.slice Ao12 t228.length co12, .bool t231, .string t232, .string t233] 26 (0, 0)) (by (with_reducible repeat (first | refine bN_ ?_ _ | refine bD_ ?_ | refine bA_ ?_ _)); exact BK236.out) hb); have n3_ := aM_ (below_step (by repeat (first | (with_reducible first | exact HB.out | apply bB_ | apply wN_ | apply bE_ | refine bS_ ?_ GE236.out) | exact HB.out)) hb); have n4_ := aM_ (hbox); have n5_ := aM_ ((by rw [hg]; exact (below_size (by repeat (first | (with_reducible first | exact HB.out | apply bB_ | apply wN_ | apply bE_ | refine bS_ ?_ GE236.out) | exact HB.out))) : w.heap.size ≤ gb247)); have n6_ := aM_ ((by rw [hg]; exact (below_size (by repeat (first | (with_reducible first | exact HB.out | apply bB_ | apply wN_ | apply bE_ | refine bS_ ?_ GE236.out) | exact HB.out))) : w.heap.size ≤ gb247)); have n7_ := aM_ ((by rw [hg]; exact Nat.ne_of_lt (blk_lt (g := gb236) (o := .cells #[.slice Ao12 t228.length co12, .bool t231, .string t232, .string t233] 26 (0, 0)) (by (with_reducible repeat (first | refine bN_ ?_ _ | refine bD_ ?_ | refine bA_ ?_ _)); exact BK236.out)) : gb236 ≠ gb247)); have n8_ := aM_ ((by rw [hg]; exact Nat.ne_of_gt (blk_lt (g := gb236) (o := .cells #[.slice Ao12 t228.length co12, .bool t231, .string t232, .string t233] 26 (0, 0)) (by (with_reducible repeat (first | refine bN_ ?_ _ | refine bD_ ?_ | refine bA_ ?_ _)); exact BK236.out)) : gb247 ≠ gb236)); clear HO230; clear HO240; clear BK236; clear HB; have HO230 := n0_; have HO240 := n1_; have BK236 := n2_; have HB := n3_; have BK247 := n4_; have GW247 := n5_; have GE247 := n6_; have NB236_247 := n7_; have NB247_236 := n8_; clear n0_ n1_ n2_ n3_ n4_ n5_ n6_ n7_ n8_; clear hb hbox hg; have hnb16 := NB247_236.out; have hnc16 := NB236_247.out; have hcz17_0 : w15.cell? ⟨gb247, 0, none⟩ = some (.bool false) := (bC_ BK247.out 0).trans rfl; have hcz17_1 : w15.cell? ⟨gb247, 1, none⟩ = some (.slice none 0 0) := (bC_ BK247.out 1).trans rfl; have hcz17_2 : w15.cell? ⟨gb247, 2, none⟩ = some (.string (⟨#[]⟩ : ByteArray)) := (bC_ BK247.out 2).trans rfl; have hcz17_3 : w15.cell? ⟨gb247, 3, none⟩ = some (.string (⟨#[]⟩ : ByteArray)) := (bC_ BK247.out 3).trans rfl; have hcz17_4 : w15.cell? ⟨gb247, 4, none⟩ = some (.string (⟨#[]⟩ : ByteArray)) := (bC_ BK247.out 4).trans rfl; have hcz17_5 : w15.cell? ⟨gb247, 5, none⟩ = some (.int .u64 0) := (bC_ BK247.out 5).trans rfl; have hcz17_6 : w15.cell? ⟨gb247, 6, none⟩ = some (.int .u64 0) := (bC_ BK247.out 6).trans rfl; have hcz17_7 : w15.cell? ⟨gb247, 7, none⟩ = some (.int .u64 0) := (bC_ BK247.out 7).trans rfl; have hfz17_0 := bF_ BK247.out 0; have hfz17_1 := bF_ BK247.out 1; have hfz17_2 := bF_ BK247.out 2; have hfz17_3 := bF_ BK247.out 3; have hfz17_4 := bF_ BK247.out 4; have hfz17_5 := bF_ BK247.out 5; have hfz17_6 := bF_ BK247.out 6; have hfz17_7 := bF_ BK247.out 7; obtain ⟨Ao18, co18, eo18⟩ := Kd.R_slice HO240.out; subst eo18; have hcz19_0 : w15.cell? ⟨gb236, 0, none⟩ = some (.slice Ao12 t228.length co12) := (bC_ BK236.out 0).trans rfl; have hcz19_1 : w15.cell? ⟨gb236, 1, none⟩ = some (.bool t231) := (bC_ BK236.out 1).trans rfl; have hcz19_2 : w15.cell? ⟨gb236, 2, none⟩ = some (.string t232) := (bC_ BK236.out 2).trans rfl; have hcz19_3 : w15.cell? ⟨gb236, 3, none⟩ = some (.string t233) := (bC_ BK236.out 3).trans rfl; have hfz19_0 := bF_ BK236.out 0; have hfz19_1 := bF_ BK236.out 1; have hfz19_2 := bF_ BK236.out 2; have hfz19_3 := bF_ BK236.out 3) | ((with_reducible refine gate_callee (f := 9) rfl ?_); refine goesL_ (some 33) rfl rfl Tryd.func9 (by kernel_rfl) rfl #[.agg #[.slice Ao12 t228.length co12, .bool t231, .string t232, .string t233], .agg #[.bool t237, .slice Ao18 t238.length co18, .string t241, .string t242, .string t243, .int .u64 t244, .int .u64 t245, .int .u64 t246]] rfl (by (try simp only [List.map_toArray, List.map_cons, List.map_nil]); first | done | rfl | (simp only [List.length_drop, List.length_take]; rfl)) ?_; (with_reducible refine (spec_SameVer.calls k _ _ t228 t231 t232 t233 t237 _ _ t238 t241 t242 t243 t244 t245 t246 t248 _ ?side1 ?side2 ?side3 ?side4 A9.out).mono ?_); (case side1 => refine (Kd.R_reads' (e := 22) (base := w.heap.size) (ok := fun k_ => (True ∧ some k_ ≠ (.slice Ao18 t238.length co18 : Value).ownBlock)) (n := t228.length) (c := co12) ?_).2.2; exact (by (with_reducible repeat (first | apply kA_ | apply kN_ | apply kD_)); exact (Kd.R_mono (Kd.R_far (p := ⟨gb247, 7, none⟩) (Kd.R_far (p := ⟨gb247, 6, none⟩) (Kd.R_far (p := ⟨gb247, 5, none⟩) (Kd.R_far (p := ⟨gb247, 4, none⟩) (Kd.R_far (p := ⟨gb247, 3, none⟩) (Kd.R_far (p := ⟨gb247, 2, none⟩) (Kd.R_far (p := ⟨gb247, 1, none⟩) (Kd.R_far (p := ⟨gb247, 0, none⟩) (Kd.R_types HO230.out BK247.out (by decide)) (fun _ hk => hk.2) (.bool t237)) (fun _ hk => hk.2) (.slice Ao18 t238.length co18)) (fun _ hk => hk.2) (.string t241)) (fun _ hk => hk.2) (.string t242)) (fun _ hk => hk.2) (.string t243)) (fun _ hk => hk.2) (.int .u64 t244)) (fun _ hk => hk.2) (.int .u64 t245)) (fun _ hk => hk.2) (.int .u64 t246)) (fun _ h_ => h_.1)))); (case side2 => exact (Kd.R_reads' HO230.out).2.1); (case side3 => refine (Kd.R_reads' (e := 22) (base := w.heap.size) (ok := fun k_ => (True ∧ some k_ ≠ (.slice Ao12 t228.length co12 : Value).ownBlock)) (n := t238.length) (c := co18) ?_).2.2; exact (by (with_reducible repeat (first | apply kA_ | apply kN_ | apply kD_)); exact (Kd.R_mono (Kd.R_far (p := ⟨gb247, 7, none⟩) (Kd.R_far (p := ⟨gb247, 6, none⟩) (Kd.R_far (p := ⟨gb247, 5, none⟩) (Kd.R_far (p := ⟨gb247, 4, none⟩) (Kd.R_far (p := ⟨gb247, 3, none⟩) (Kd.R_far (p := ⟨gb247, 2, none⟩) (Kd.R_far (p := ⟨gb247, 1, none⟩) (Kd.R_far (p := ⟨gb247, 0, none⟩) (Kd.R_types HO240.out BK247.out (by decide)) (fun _ hk => hk.2) (.bool t237)) (fun _ hk => hk.2) (.slice Ao18 t238.length co18)) (fun _ hk => hk.2) (.string t241)) (fun _ hk => hk.2) (.string t242)) (fun _ hk => hk.2) (.string t243)) (fun _ hk => hk.2) (.int .u64 t244)) (fun _ hk => hk.2) (.int .u64 t245)) (fun _ hk => hk.2) (.int .u64 t246)) (fun _ h_ => h_.1)))); (case side4 => exact (Kd.R_reads' HO240.out).2.1); rintro e w20 ⟨rfl, hb⟩; refine ⟨_, rfl, ?_⟩; have n0_ := aM_ (Kd.R_below (by (with_reducible repeat (first | apply kA_ | apply kN_ | apply kD_)); exact (Kd.R_mono (Kd.R_far (p := ⟨gb247, 7, none⟩) (Kd.R_far (p := ⟨gb247, 6, none⟩) (Kd.R_far (p := ⟨gb247, 5, none⟩) (Kd.R_far (p := ⟨gb247, 4, none⟩) (Kd.R_far (p := ⟨gb247, 3, none⟩) (Kd.R_far (p := ⟨gb247, 2, none⟩) (Kd.R_far (p := ⟨gb247, 1, none⟩) (Kd.R_far (p := ⟨gb247, 0, none⟩) (Kd.R_types HO230.out BK247.out (by decide)) (fun _ hk => hk.2) (.bool t237)) (fun _ hk => hk.2) (.slice Ao18 t238.length co18)) (fun _ hk => hk.2) (.string t241)) (fun _ hk => hk.2) (.string t242)) (fun _ hk => hk.2) (.string t243)) (fun _ hk => hk.2) (.int .u64 t244)) (fun _ hk => hk.2) (.int .u64 t245)) (fun _ hk => hk.2) (.int .u64 t246)) (fun _ h_ => h_.1))) hb); have n1_ := aM_ (Kd.R_below (by (with_reducible repeat (first | apply kA_ | apply kN_ | apply kD_)); exact (Kd.R_mono (Kd.R_far (p := ⟨gb247, 7, none⟩) (Kd.R_far (p := ⟨gb247, 6, none⟩) (Kd.R_far (p := ⟨gb247, 5, none⟩) (Kd.R_far (p := ⟨gb247, 4, none⟩) (Kd.R_far (p := ⟨gb247, 3, none⟩) (Kd.R_far (p := ⟨gb247, 2, none⟩) (Kd.R_far (p := ⟨gb247, 1, none⟩) (Kd.R_far (p := ⟨gb247, 0, none⟩) (Kd.R_types HO240.out BK247.out (by decide)) (fun _ hk => hk.2) (.bool t237)) (fun _ hk => hk.2) (.slice Ao18 t238.length co18)) (fun _ hk => hk.2) (.string t241)) (fun _ hk => hk.2) (.string t242)) (fun _ hk => hk.2) (.string t243)) (fun _ hk => hk.2) (.int .u64 t244)) (fun _ hk => hk.2) (.int .u64 t245)) (fun _ hk => hk.2) (.int .u64 t246)) (fun _ h_ => h_.1))) hb); have n2_ := aM_ (blk_below (g := gb236) (o := .cells #[.slice Ao12 t228.length co12, .bool t231, .string t232, .string t233] 26 (0, 0)) (by (with_reducible repeat (first | refine bN_ ?_ _ | refine bD_ ?_ | refine bA_ ?_ _)); refine blk_far ?_ NB236_247.out _; (with_reducible repeat (first | refine bN_ ?_ _ | refine bD_ ?_ | refine bA_ ?_ _)); refine blk_far ?_ NB236_247.out _; (with_reducible repeat (first | refine bN_ ?_ _ | refine bD_ ?_ | refine bA_ ?_ _)); refine blk_far ?_ NB236_247.out _; (with_reducible repeat (first | refine bN_ ?_ _ | refine bD_ ?_ | refine bA_ ?_ _)); refine blk_far ?_ NB236_247.out _; (with_reducible repeat (first | refine bN_ ?_ _ | refine bD_ ?_ | refine bA_ ?_ _)); refine blk_far ?_ NB236_247.out _; (with_reducible repeat (first | refine bN_ ?_ _ | refine bD_ ?_ | refine bA_ ?_ _)); refine blk_far ?_ NB236_247.out _; (with_reducible repeat (first | refine bN_ ?_ _ | refine bD_ ?_ | refine bA_ ?_ _)); refine blk_far ?_ NB236_247.out _; (with_reducible repeat (first | refine bN_ ?_ _ | refine bD_ ?_ | refine bA_ ?_ _)); refine blk_far ?_ NB236_247.out _; (with_reducible repeat (first | refine bN_ ?_ _ | refine bD_ ?_ | refine bA_ ?_ _)); exact BK236.out) hb); have n3_ := aM_ (blk_below (g := gb247) (o := .cells #[.bool t237, .slice Ao18 t238.length co18, .string t241, .string t242, .string t243, .int .u64 t244, .int .u64 t245, .int .u64 t246] 28 (0, 0)) (by (with_reducible repeat (first | refine bN_ ?_ _ | refine bD_ ?_ | refine bA_ ?_ _)); refine blk_put (cs := #[.bool t237, .slice Ao18 t238.length co18, .string t241, .string t242, .string t243, .int .u64 t244, .int .u64 t245, .int .u64 0]) ?_ 7 _ rfl; (with_reducible repeat (first | refine bN_ ?_ _ | refine bD_ ?_ | refine bA_ ?_ _)); refine blk_put (cs := #[.bool t237, .slice Ao18 t238.length co18, .string t241, .string t242, .string t243, .int .u64 t244, .int .u64 0, .int .u64 0]) ?_ 6 _ rfl; (with_reducible repeat (first | refine bN_ ?_ _ | refine bD_ ?_ | refine bA_ ?_ _)); refine blk_put (cs := #[.bool t237, .slice Ao18 t238.length co18, .string t241, .string t242, .string t243, .int .u64 0, .int .u64 0, .int .u64 0]) ?_ 5 _ rfl; (with_reducible repeat (first | refine bN_ ?_ _ | refine bD_ ?_ | refine bA_ ?_ _)); refine blk_put (cs := #[.bool t237, .slice Ao18 t238.length co18, .string t241, .string t242, .string (⟨#[]⟩ : ByteArray), .int .u64 0, .int .u64 0, .int .u64 0]) ?_ 4 _ rfl; (with_reducible repeat (first | refine bN_ ?_ _ | refine bD_ ?_ | refine bA_ ?_ _)); refine blk_put (cs := #[.bool t237, .slice Ao18 t238.length co18, .string t241, .string (⟨#[]⟩ : ByteArray), .string (⟨#[]⟩ : ByteArray), .int .u64 0, .int .u64 0, .int .u64 0]) ?_ 3 _ rfl; (with_reducible repeat (first | refine bN_ ?_ _ | refine bD_ ?_ | refine bA_ ?_ _)); refine blk_put (cs := #[.bool t237, .slice Ao18 t238.length co18, .string (⟨#[]⟩ : ByteArray), .string (⟨#[]⟩ : ByteArray), .string (⟨#[]⟩ : ByteArray), .int .u64 0, .int .u64 0, .int .u64 0]) ?_ 2 _ rfl; (with_reducible repeat (first | refine bN_ ?_ _ | refine bD_ ?_ | refine bA_ ?_ _)); refine blk_put (cs := #[.bool t237, .slice none 0 0, .string (⟨#[]⟩ : ByteArray), .string (⟨#[]⟩ : ByteArray), .string (⟨#[]⟩ : ByteArray), .int .u64 0, .int .u64 0, .int .u64 0]) ?_ 1 _ rfl; (with_reducible repeat (first | refine bN_ ?_ _ | refine bD_ ?_ | refine bA_ ?_ _)); refine blk_put (cs := #[.bool false, .slice none 0 0, .string (⟨#[]⟩ : ByteArray), .string (⟨#[]⟩ : ByteArray), .string (⟨#[]⟩ : ByteArray), .int .u64 0, .int .u64 0, .int .u64 0]) ?_ 0 _ rfl; (with_reducible repeat (first | refine bN_ ?_ _ | refine bD_ ?_ | refine bA_ ?_ _)); exact BK247.out) hb); have n4_ := aM_ (below_step (by repeat (first | (with_reducible first | exact HB.out | apply bB_ | apply wN_ | apply bE_ | refine bS_ ?_ GE236.out | refine bS_ ?_ GE247.out) | exact HB.out)) hb); clear HO230; clear HO240; clear BK236; clear BK247; clear HB; have HO230 := n0_; have HO240 := n1_; have BK236 := n2_; have BK247 := n3_; have HB := n4_; clear n0_ n1_ n2_ n3_ n4_; (try clear hb); (try clear hb2); (try clear hk); (try clear hi)))
    go_ret
    exact ⟨by first | rfl | (simp [errW_none, errW_some] <;> rfl) | (simp [*, errW_none, errW_some] <;> rfl) | (exfalso; contradiction), by repeat (first | (with_reducible first | exact HB.out | apply bB_ | apply wN_ | apply bE_ | refine bS_ ?_ GE236.out | refine bS_ ?_ GE247.out) | exact HB.out)⟩
   ·
    replace c8 := Bool.eq_false_iff.mpr c8
    subst c8
    have H1 : (some (!t237)) = some r := by rw [if_neg (show ¬ (false = true) by decide)] at H; exact H
    clear H
    have H := H1
    clear H1
    obtain rfl := Option.some.inj H
    go_enter Tryd.func5, Tryd.ntmps5
    go_wp2_with (first | ((with_reducible refine gate_callee (f := 15) rfl ?_); refine goesL_ (some 13) rfl rfl Tryd.func15 (by kernel_rfl) rfl #[.int .i64 a0] rfl (by (try simp only [List.map_toArray, List.map_cons, List.map_nil]); first | done | rfl | (simp only [List.length_drop, List.length_take]; rfl)) ?_; (with_reducible refine (laws_verKind.calls a0 t227 _ A4.out).mono ?_); rintro e w' ⟨rfl, ⟨nd, rfl⟩⟩; refine ⟨_, rfl, ?_⟩) | ((with_reducible refine gate_callee (f := 16) rfl ?_); refine goesL_ (some 17) rfl rfl Tryd.func16 (by kernel_rfl) rfl #[.int .i64 t227, .string a1] rfl (by (try simp only [List.map_toArray, List.map_cons, List.map_nil]); first | done | rfl | (simp only [List.length_drop, List.length_take]; rfl)) ?_; (with_reducible refine (spec_VerParsed.calls k t227 a1 t228 t231 t232 t233 false true _ A5.out).mono ?_); rintro e w21 ⟨v229, rfl, ho0, hb⟩; refine ⟨_, rfl, ?_⟩; have n0_ := aM_ (Kd.R_lower ho0 (below_size (by repeat (first | (with_reducible first | exact HB.out | apply bB_ | apply wN_ | apply bE_) | exact HB.out)))); have n1_ := aM_ (below_step (by repeat (first | (with_reducible first | exact HB.out | apply bB_ | apply wN_ | apply bE_) | exact HB.out)) hb); clear HB; have HO230 := n0_; have HB := n1_; clear n0_ n1_; (try clear hb); (try clear hb2); (try clear hk); (try clear hi); (try clear ho0)) | ((with_reducible refine gate_dst (N := 5) rfl ?_); refine box_event ?hg (N := 5) ?hd (cs := #[.slice none 0 0, .bool false, .string (⟨#[]⟩ : ByteArray), .string (⟨#[]⟩ : ByteArray)]) (t := 26) ?hr ?_; (case hd => rfl); (case hg => rfl); (case hr => first | (go_simp; done) | (go_simp; rfl)); intro gb236 hg w22 hbox hb; have n0_ := aM_ (Kd.R_below (by (with_reducible repeat (first | apply kA_ | apply kN_ | apply kD_)); exact HO230.out) hb); have n1_ := aM_ (below_step (by repeat (first | (with_reducible first | exact HB.out | apply bB_ | apply wN_ | apply bE_) | exact HB.out)) hb); have n2_ := aM_ (hbox); have n3_ := aM_ ((by rw [hg]; exact (below_size (by repeat (first | (with_reducible first | exact HB.out | apply bB_ | apply wN_ | apply bE_) | exact HB.out))) : w.heap.size ≤ gb236)); have n4_ := aM_ ((by rw [hg]; exact (below_size (by repeat (first | (with_reducible first | exact HB.out | apply bB_ | apply wN_ | apply bE_) | exact HB.out))) : w.heap.size ≤ gb236)); clear HO230; clear HB; have HO230 := n0_; have HB := n1_; have BK236 := n2_; have GW236 := n3_; have GE236 := n4_; clear n0_ n1_ n2_ n3_ n4_; clear hb hbox hg; obtain ⟨Ao23, co23, eo23⟩ := Kd.R_slice HO230.out; subst eo23; have hcz24_0 : w22.cell? ⟨gb236, 0, none⟩ = some (.slice none 0 0) := (bC_ BK236.out 0).trans rfl; have hcz24_1 : w22.cell? ⟨gb236, 1, none⟩ = some (.bool false) := (bC_ BK236.out 1).trans rfl; have hcz24_2 : w22.cell? ⟨gb236, 2, none⟩ = some (.string (⟨#[]⟩ : ByteArray)) := (bC_ BK236.out 2).trans rfl; have hcz24_3 : w22.cell? ⟨gb236, 3, none⟩ = some (.string (⟨#[]⟩ : ByteArray)) := (bC_ BK236.out 3).trans rfl; have hfz24_0 := bF_ BK236.out 0; have hfz24_1 := bF_ BK236.out 1; have hfz24_2 := bF_ BK236.out 2; have hfz24_3 := bF_ BK236.out 3) | ((with_reducible refine gate_callee (f := 14) rfl ?_); refine goesL_ (some 25) rfl rfl Tryd.func14 (by kernel_rfl) rfl #[.int .i64 t227, .string a1] rfl (by (try simp only [List.map_toArray, List.map_cons, List.map_nil]); first | done | rfl | (simp only [List.length_drop, List.length_take]; rfl)) ?_; (with_reducible refine (impl_VersionParse.calls t227 a1 t237 t238 t241 t242 t243 t244 t245 t246 _ A7.out (HGd.out.below (by repeat (first | (with_reducible first | exact HB.out | apply bB_ | apply wN_ | apply bE_ | refine bS_ ?_ GE236.out) | exact HB.out)))).mono ?_); rintro e w25 ⟨v239, rfl, ho0, hb⟩; refine ⟨_, rfl, ?_⟩; have n0_ := aM_ (Kd.R_elder' (by (with_reducible repeat (first | apply kA_ | apply kN_ | apply kD_)); exact (Kd.R_mono (Kd.R_far (p := ⟨gb236, 3, none⟩) (Kd.R_far (p := ⟨gb236, 2, none⟩) (Kd.R_far (p := ⟨gb236, 1, none⟩) (Kd.R_far (p := ⟨gb236, 0, none⟩) (Kd.R_types HO230.out BK236.out (by decide)) (fun _ hk => hk.2) (.slice Ao23 t228.length co23)) (fun _ hk => hk.2) (.bool t231)) (fun _ hk => hk.2) (.string t232)) (fun _ hk => hk.2) (.string t233)) (fun _ h_ => h_.1))) (Kd.R_base ho0) hb); have n1_ := aM_ (Kd.R_lower (Kd.R_new' ho0 (Kd.R_lt (by (with_reducible repeat (first | apply kA_ | apply kN_ | apply kD_)); exact (Kd.R_mono (Kd.R_far (p := ⟨gb236, 3, none⟩) (Kd.R_far (p := ⟨gb236, 2, none⟩) (Kd.R_far (p := ⟨gb236, 1, none⟩) (Kd.R_far (p := ⟨gb236, 0, none⟩) (Kd.R_types HO230.out BK236.out (by decide)) (fun _ hk => hk.2) (.slice Ao23 t228.length co23)) (fun _ hk => hk.2) (.bool t231)) (fun _ hk => hk.2) (.string t232)) (fun _ hk => hk.2) (.string t233)) (fun _ h_ => h_.1))))) (below_size (by repeat (first | (with_reducible first | exact HB.out | apply bB_ | apply wN_ | apply bE_ | refine bS_ ?_ GE236.out) | exact HB.out)))); have n2_ := aM_ (blk_below (g := gb236) (o := .cells #[.slice Ao23 t228.length co23, .bool t231, .string t232, .string t233] 26 (0, 0)) (by (with_reducible repeat (first | refine bN_ ?_ _ | refine bD_ ?_ | refine bA_ ?_ _)); refine blk_put (cs := #[.slice Ao23 t228.length co23, .bool t231, .string t232, .string (⟨#[]⟩ : ByteArray)]) ?_ 3 _ rfl; (with_reducible repeat (first | refine bN_ ?_ _ | refine bD_ ?_ | refine bA_ ?_ _)); refine blk_put (cs := #[.slice Ao23 t228.length co23, .bool t231, .string (⟨#[]⟩ : ByteArray), .string (⟨#[]⟩ : ByteArray)]) ?_ 2 _ rfl; (with_reducible repeat (first | refine bN_ ?_ _ | refine bD_ ?_ | refine bA_ ?_ _)); refine blk_put (cs := #[.slice Ao23 t228.length co23, .bool false, .string (⟨#[]⟩ : ByteArray), .string (⟨#[]⟩ : ByteArray)]) ?_ 1 _ rfl; (with_reducible repeat (first | refine bN_ ?_ _ | refine bD_ ?_ | refine bA_ ?_ _)); refine blk_put (cs := #[.slice none 0 0, .bool false, .string (⟨#[]⟩ : ByteArray), .string (⟨#[]⟩ : ByteArray)]) ?_ 0 _ rfl; (with_reducible repeat (first | refine bN_ ?_ _ | refine bD_ ?_ | refine bA_ ?_ _)); exact BK236.out) hb); have n3_ := aM_ (below_step (by repeat (first | (with_reducible first | exact HB.out | apply bB_ | apply wN_ | apply bE_ | refine bS_ ?_ GE236.out) | exact HB.out)) hb); clear HO230; clear BK236; clear HB; have HO230 := n0_; have HO240 := n1_; have BK236 := n2_; have HB := n3_; clear n0_ n1_ n2_ n3_; (try clear hb); (try clear hb2); (try clear hk); (try clear hi); (try clear ho0)) | ((with_reducible refine gate_dst (N := 8) rfl ?_); refine box_event ?hg (N := 8) ?hd (cs := #[.bool false, .slice none 0 0, .string (⟨#[]⟩ : ByteArray), .string (⟨#[]⟩ : ByteArray), .string (⟨#[]⟩ : ByteArray), .int .u64 0, .int .u64 0, .int .u64 0]) (t := 28) ?hr ?_; (case hd => rfl); (case hg => rfl); (case hr => first | (go_simp; done) | (go_simp; rfl)); intro gb247 hg w26 hbox hb; have n0_ := aM_ (Kd.R_below (by (with_reducible repeat (first | apply kA_ | apply kN_ | apply kD_)); exact HO230.out) hb); have n1_ := aM_ (Kd.R_below (by (with_reducible repeat (first | apply kA_ | apply kN_ | apply kD_)); exact HO240.out) hb); have n2_ := aM_ (blk_below (g := gb236) (o := .cells #[.slice Ao23 t228.length co23, .bool t231, .string t232, .string t233] 26 (0, 0)) (by (with_reducible repeat (first | refine bN_ ?_ _ | refine bD_ ?_ | refine bA_ ?_ _)); exact BK236.out) hb); have n3_ := aM_ (below_step (by repeat (first | (with_reducible first | exact HB.out | apply bB_ | apply wN_ | apply bE_ | refine bS_ ?_ GE236.out) | exact HB.out)) hb); have n4_ := aM_ (hbox); have n5_ := aM_ ((by rw [hg]; exact (below_size (by repeat (first | (with_reducible first | exact HB.out | apply bB_ | apply wN_ | apply bE_ | refine bS_ ?_ GE236.out) | exact HB.out))) : w.heap.size ≤ gb247)); have n6_ := aM_ ((by rw [hg]; exact (below_size (by repeat (first | (with_reducible first | exact HB.out | apply bB_ | apply wN_ | apply bE_ | refine bS_ ?_ GE236.out) | exact HB.out))) : w.heap.size ≤ gb247)); have n7_ := aM_ ((by rw [hg]; exact Nat.ne_of_lt (blk_lt (g := gb236) (o := .cells #[.slice Ao23 t228.length co23, .bool t231, .string t232, .string t233] 26 (0, 0)) (by (with_reducible repeat (first | refine bN_ ?_ _ | refine bD_ ?_ | refine bA_ ?_ _)); exact BK236.out)) : gb236 ≠ gb247)); have n8_ := aM_ ((by rw [hg]; exact Nat.ne_of_gt (blk_lt (g := gb236) (o := .cells #[.slice Ao23 t228.length co23, .bool t231, .string t232, .string t233] 26 (0, 0)) (by (with_reducible repeat (first | refine bN_ ?_ _ | refine bD_ ?_ | refine bA_ ?_ _)); exact BK236.out)) : gb247 ≠ gb236)); clear HO230; clear HO240; clear BK236; clear HB; have HO230 := n0_; have HO240 := n1_; have BK236 := n2_; have HB := n3_; have BK247 := n4_; have GW247 := n5_; have GE247 := n6_; have NB236_247 := n7_; have NB247_236 := n8_; clear n0_ n1_ n2_ n3_ n4_ n5_ n6_ n7_ n8_; clear hb hbox hg; have hnb27 := NB247_236.out; have hnc27 := NB236_247.out; have hcz28_0 : w26.cell? ⟨gb247, 0, none⟩ = some (.bool false) := (bC_ BK247.out 0).trans rfl; have hcz28_1 : w26.cell? ⟨gb247, 1, none⟩ = some (.slice none 0 0) := (bC_ BK247.out 1).trans rfl; have hcz28_2 : w26.cell? ⟨gb247, 2, none⟩ = some (.string (⟨#[]⟩ : ByteArray)) := (bC_ BK247.out 2).trans rfl; have hcz28_3 : w26.cell? ⟨gb247, 3, none⟩ = some (.string (⟨#[]⟩ : ByteArray)) := (bC_ BK247.out 3).trans rfl; have hcz28_4 : w26.cell? ⟨gb247, 4, none⟩ = some (.string (⟨#[]⟩ : ByteArray)) := (bC_ BK247.out 4).trans rfl; have hcz28_5 : w26.cell? ⟨gb247, 5, none⟩ = some (.int .u64 0) := (bC_ BK247.out 5).trans rfl; have hcz28_6 : w26.cell? ⟨gb247, 6, none⟩ = some (.int .u64 0) := (bC_ BK247.out 6).trans rfl; have hcz28_7 : w26.cell? ⟨gb247, 7, none⟩ = some (.int .u64 0) := (bC_ BK247.out 7).trans rfl; have hfz28_0 := bF_ BK247.out 0; have hfz28_1 := bF_ BK247.out 1; have hfz28_2 := bF_ BK247.out 2; have hfz28_3 := bF_ BK247.out 3; have hfz28_4 := bF_ BK247.out 4; have hfz28_5 := bF_ BK247.out 5; have hfz28_6 := bF_ BK247.out 6; have hfz28_7 := bF_ BK247.out 7; obtain ⟨Ao29, co29, eo29⟩ := Kd.R_slice HO240.out; subst eo29))
    go_ret
    exact ⟨by first | rfl | (simp [errW_none, errW_some] <;> rfl) | (simp [*, errW_none, errW_some] <;> rfl) | (exfalso; contradiction), by repeat (first | (with_reducible first | exact HB.out | apply bB_ | apply wN_ | apply bE_ | refine bS_ ?_ GE236.out | refine bS_ ?_ GE247.out) | exact HB.out)⟩
  ·
   replace c6 := Bool.eq_false_iff.mpr c6
   subst c6
   have H1 : (some true) = some r := by rw [if_neg (show ¬ (false = true) by decide)] at H; exact H
   clear H
   have H := H1
   clear H1
   obtain rfl := Option.some.inj H
   go_enter Tryd.func5, Tryd.ntmps5
   go_wp2_with (first | ((with_reducible refine gate_callee (f := 15) rfl ?_); refine goesL_ (some 13) rfl rfl Tryd.func15 (by kernel_rfl) rfl #[.int .i64 a0] rfl (by (try simp only [List.map_toArray, List.map_cons, List.map_nil]); first | done | rfl | (simp only [List.length_drop, List.length_take]; rfl)) ?_; (with_reducible refine (laws_verKind.calls a0 t227 _ A4.out).mono ?_); rintro e w' ⟨rfl, ⟨nd, rfl⟩⟩; refine ⟨_, rfl, ?_⟩) | ((with_reducible refine gate_callee (f := 16) rfl ?_); refine goesL_ (some 17) rfl rfl Tryd.func16 (by kernel_rfl) rfl #[.int .i64 t227, .string a1] rfl (by (try simp only [List.map_toArray, List.map_cons, List.map_nil]); first | done | rfl | (simp only [List.length_drop, List.length_take]; rfl)) ?_; (with_reducible refine (spec_VerParsed.calls k t227 a1 t228 t231 t232 t233 t234 false _ A5.out).mono ?_); rintro e w30 ⟨v229, rfl, ho0, hb⟩; refine ⟨_, rfl, ?_⟩; have n0_ := aM_ (Kd.R_lower ho0 (below_size (by repeat (first | (with_reducible first | exact HB.out | apply bB_ | apply wN_ | apply bE_) | exact HB.out)))); have n1_ := aM_ (below_step (by repeat (first | (with_reducible first | exact HB.out | apply bB_ | apply wN_ | apply bE_) | exact HB.out)) hb); clear HB; have HO230 := n0_; have HB := n1_; clear n0_ n1_; (try clear hb); (try clear hb2); (try clear hk); (try clear hi); (try clear ho0)) | ((with_reducible refine gate_dst (N := 5) rfl ?_); refine box_event ?hg (N := 5) ?hd (cs := #[.slice none 0 0, .bool false, .string (⟨#[]⟩ : ByteArray), .string (⟨#[]⟩ : ByteArray)]) (t := 26) ?hr ?_; (case hd => rfl); (case hg => rfl); (case hr => first | (go_simp; done) | (go_simp; rfl)); intro gb236 hg w31 hbox hb; have n0_ := aM_ (Kd.R_below (by (with_reducible repeat (first | apply kA_ | apply kN_ | apply kD_)); exact HO230.out) hb); have n1_ := aM_ (below_step (by repeat (first | (with_reducible first | exact HB.out | apply bB_ | apply wN_ | apply bE_) | exact HB.out)) hb); have n2_ := aM_ (hbox); have n3_ := aM_ ((by rw [hg]; exact (below_size (by repeat (first | (with_reducible first | exact HB.out | apply bB_ | apply wN_ | apply bE_) | exact HB.out))) : w.heap.size ≤ gb236)); have n4_ := aM_ ((by rw [hg]; exact (below_size (by repeat (first | (with_reducible first | exact HB.out | apply bB_ | apply wN_ | apply bE_) | exact HB.out))) : w.heap.size ≤ gb236)); clear HO230; clear HB; have HO230 := n0_; have HB := n1_; have BK236 := n2_; have GW236 := n3_; have GE236 := n4_; clear n0_ n1_ n2_ n3_ n4_; clear hb hbox hg; obtain ⟨Ao32, co32, eo32⟩ := Kd.R_slice HO230.out; subst eo32; have hcz33_0 : w31.cell? ⟨gb236, 0, none⟩ = some (.slice none 0 0) := (bC_ BK236.out 0).trans rfl; have hcz33_1 : w31.cell? ⟨gb236, 1, none⟩ = some (.bool false) := (bC_ BK236.out 1).trans rfl; have hcz33_2 : w31.cell? ⟨gb236, 2, none⟩ = some (.string (⟨#[]⟩ : ByteArray)) := (bC_ BK236.out 2).trans rfl; have hcz33_3 : w31.cell? ⟨gb236, 3, none⟩ = some (.string (⟨#[]⟩ : ByteArray)) := (bC_ BK236.out 3).trans rfl; have hfz33_0 := bF_ BK236.out 0; have hfz33_1 := bF_ BK236.out 1; have hfz33_2 := bF_ BK236.out 2; have hfz33_3 := bF_ BK236.out 3))
   go_ret
   exact ⟨by first | rfl | (simp [errW_none, errW_some] <;> rfl) | (simp [*, errW_none, errW_some] <;> rfl) | (exfalso; contradiction), by repeat (first | (with_reducible first | exact HB.out | apply bB_ | apply wN_ | apply bE_ | refine bS_ ?_ GE236.out) | exact HB.out)⟩

/-- THE ONE PURE STATEMENT of laws_FnVersionParse: yours. -/
def laws_FnVersionParse.Pure : Prop := ∀ (a0 : Int) (a1 : ByteArray), (Lit.int .i64 a0).wf = true → a1.size ≤ 140737488351232 → ∃ k, laws_FnVersionParse.f k a0 a1 = some true
theorem laws_FnVersionParse.walk (P : laws_FnVersionParse.Pure) (a0 : Int) (a1 : ByteArray) (w : World) (w0 : (Lit.int .i64 a0).wf = true) (w1 : a1.size ≤ 140737488351232) (hgood : Pv.Good w) :
  Calls Tryd.prog 5 #[.int .i64 a0, .string a1] w fun e w' => e = .returned (.bool true) ∧ Below w.heap.size w w' := by
 obtain ⟨k, h⟩ := P a0 a1 w0 w1
 refine (laws_FnVersionParse.calls k a0 a1 true w h hgood).mono ?_
 rintro e w' ⟨rfl, hd⟩
 exact ⟨rfl, hd⟩

end Go.Proofs.YtomoefldmgfaoaaDoor.PFnVersionParse
