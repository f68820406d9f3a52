/- Functions of the program as plain Lean functions, and that the machine's calls do what these say: written for this claim by wip/myprint.py over the kit's print.py. -/
import Derived.Test.YtomoefldmgfaoaaDoorPFnVersionMadex0
import Derived.Test.YtomoefldmgfaoaaDoorPFnVersionMadex1
import Derived.Test.YtomoefldmgfaoaaDoorPFnVersionMadex2
import Derived.Test.YtomoefldmgfaoaaDoorPFnVersionMadex4
namespace Go.Proofs.YtomoefldmgfaoaaDoor.PFnVersionMade
open Go.RowKit Go.Proofs.YtomoefldmgfaoaaDoorW.PrintWords Go.Proofs.YtomoefldmgfaoaaDoorW.PrintLast Go.Proofs.YtomoefldmgfaoaaDoorW.PrintMore
attribute [local go_sem] max2_int min2_int max_two min_two max_three min_three max_four min_four   -- for this text's walks alone
set_option linter.unusedVariables false
set_option linter.unusedSimpArgs false

/-! ### laws_FnVersionMade: function 4 -/
mutual
def laws_FnVersionMade.j0 : Nat → Int → Int → Int → ByteArray → ByteArray → Int → Bool → Option (Bool)
 | 0, _, _, _, _, _, _, _ => none
 | k + 1, x0, x1, x2, x3, x4, x5, x22 => if x22 = true then (some true) else (if x3.toList = ([] : List UInt8) then (if x4.toList = ([] : List UInt8) then ((spec_VerLong.f k x3).bind fun t147 => (if t147 = true then (laws_FnVersionMade.j1 k x0 x1 x2 x3 x4 x5 true) else ((spec_VerLong.f k x4).bind fun t148 => (laws_FnVersionMade.j1 k x0 x1 x2 x3 x4 x5 t148)))) else ((spec_VerIdentifiers.f k x4 false).bind fun t149 => (if t149 = true then ((spec_VerLong.f k x3).bind fun t150 => (if t150 = true then (laws_FnVersionMade.j1 k x0 x1 x2 x3 x4 x5 true) else ((spec_VerLong.f k x4).bind fun t151 => (laws_FnVersionMade.j1 k x0 x1 x2 x3 x4 x5 t151)))) else (laws_FnVersionMade.j1 k x0 x1 x2 x3 x4 x5 true)))) else ((spec_VerIdentifiers.f k x3 true).bind fun t152 => (if t152 = true then (if x4.toList = ([] : List UInt8) then ((spec_VerLong.f k x3).bind fun t153 => (if t153 = true then (laws_FnVersionMade.j1 k x0 x1 x2 x3 x4 x5 true) else ((spec_VerLong.f k x4).bind fun t154 => (laws_FnVersionMade.j1 k x0 x1 x2 x3 x4 x5 t154)))) else ((spec_VerIdentifiers.f k x4 false).bind fun t155 => (if t155 = true then ((spec_VerLong.f k x3).bind fun t156 => (if t156 = true then (laws_FnVersionMade.j1 k x0 x1 x2 x3 x4 x5 true) else ((spec_VerLong.f k x4).bind fun t157 => (laws_FnVersionMade.j1 k x0 x1 x2 x3 x4 x5 t157)))) else (laws_FnVersionMade.j1 k x0 x1 x2 x3 x4 x5 true)))) else (laws_FnVersionMade.j1 k x0 x1 x2 x3 x4 x5 true))))
def laws_FnVersionMade.j1 : Nat → Int → Int → Int → ByteArray → ByteArray → Int → Bool → Option (Bool)
 | 0, _, _, _, _, _, _, _ => none
 | k + 1, x0, x1, x2, x3, x4, x5, x46 => if x46 = true then (some true) else ((some (([x0, x1, x2] : List Int) : List Int)).bind fun y158 => ((spec_Version_Text.f k y158 true x3 x4).bind fun t162 => (if (Int.tmod x5 2) = 1 then (if 1 + t162.size ≤ 9223372036854775807 then (laws_FnVersionMade.j2 k x5 ((⟨#[118]⟩ : ByteArray) ++ t162) y158 true x3 x4) else (none)) else (laws_FnVersionMade.j2 k x5 t162 y158 true x3 x4))))
def laws_FnVersionMade.j2 : Nat → Int → ByteArray → List Int → Bool → ByteArray → ByteArray → Option (Bool)
 | 0, _, _, _, _, _, _ => none
 | k + 1, x5, x14, x162000, x162001, x162002, x162003 => if (Int.tmod x5 4) > 1 then (if 2 + x14.size ≤ 9223372036854775807 then (if ((⟨#[32, 9]⟩ : ByteArray) ++ x14).size + 1 ≤ 9223372036854775807 then (laws_FnVersionMade.j3 k (((⟨#[32, 9]⟩ : ByteArray) ++ x14) ++ (⟨#[32]⟩ : ByteArray)) x162000 x162001 x162002 x162003) else (none)) else (none)) else (laws_FnVersionMade.j3 k x14 x162000 x162001 x162002 x162003)
def laws_FnVersionMade.j3 : Nat → ByteArray → List Int → Bool → ByteArray → ByteArray → Option (Bool)
 | 0, _, _, _, _, _ => none
 | k + 1, x14, x162000, x162001, x162002, x162003 => (impl_VersionParse.f 2 x14).bind fun bt163 => ((spec_SameVer.f k x162000 x162001 x162002 x162003 bt163.1 bt163.2.1 bt163.2.2.1 bt163.2.2.2.1 bt163.2.2.2.2.1 bt163.2.2.2.2.2.1 bt163.2.2.2.2.2.2.1 bt163.2.2.2.2.2.2.2).bind fun t173 => (if t173 = true then ((impl_VersionParse.f 0 x14).bind fun bt174 => ((spec_SameVer.f k x162000 x162001 x162002 x162003 bt174.1 bt174.2.1 bt174.2.2.1 bt174.2.2.2.1 bt174.2.2.2.2.1 bt174.2.2.2.2.2.1 bt174.2.2.2.2.2.2.1 bt174.2.2.2.2.2.2.2).bind fun t184 => (some t184))) else (some false)))
end
def laws_FnVersionMade.f (k : Nat) (a0 : Int) (a1 : Int) (a2 : Int) (a3 : ByteArray) (a4 : ByteArray) (a5 : Int) : Option (Bool) := if (a3.size : Int) > 2147483647 then (laws_FnVersionMade.j0 k a0 a1 a2 a3 a4 a5 true) else (laws_FnVersionMade.j0 k a0 a1 a2 a3 a4 a5 (decide ((a4.size : Int) > 2147483647)))
theorem laws_FnVersionMade.mono_l : ∀ k, (∀ y0 y1 y2 y3 y4 y5 y6, LeO (laws_FnVersionMade.j0 k y0 y1 y2 y3 y4 y5 y6) (laws_FnVersionMade.j0 (k + 1) y0 y1 y2 y3 y4 y5 y6)) ∧ (∀ y0 y1 y2 y3 y4 y5 y6, LeO (laws_FnVersionMade.j1 k y0 y1 y2 y3 y4 y5 y6) (laws_FnVersionMade.j1 (k + 1) y0 y1 y2 y3 y4 y5 y6)) ∧ (∀ y0 y1 y2 y3 y4 y5, LeO (laws_FnVersionMade.j2 k y0 y1 y2 y3 y4 y5) (laws_FnVersionMade.j2 (k + 1) y0 y1 y2 y3 y4 y5)) ∧ (∀ y0 y1 y2 y3 y4, LeO (laws_FnVersionMade.j3 k y0 y1 y2 y3 y4) (laws_FnVersionMade.j3 (k + 1) y0 y1 y2 y3 y4))
 | 0 => ⟨fun _ _ _ _ _ _ _ r h => by simp [laws_FnVersionMade.j0] at h, fun _ _ _ _ _ _ _ r h => by simp [laws_FnVersionMade.j1] at h, fun _ _ _ _ _ _ r h => by simp [laws_FnVersionMade.j2] at h, fun _ _ _ _ _ r h => by simp [laws_FnVersionMade.j3] at h⟩
 | k + 1 => by
  obtain ⟨ih0, ih1, ih2, ih3⟩ := laws_FnVersionMade.mono_l k
  refine ⟨?_, ?_, ?_, ?_⟩
  ·
   intro y0 y1 y2 y3 y4 y5 y6
   unfold laws_FnVersionMade.j0
   repeat' first
   | (with_reducible exact ih0 _ _ _ _ _ _ _)
   | (with_reducible exact ih1 _ _ _ _ _ _ _)
   | (with_reducible exact ih2 _ _ _ _ _ _)
   | (with_reducible exact ih3 _ _ _ _ _)
   | (with_reducible exact spec_SameVer.mono _ _ _ _ _ _ _ _ _ _ _ _ _)
   | (with_reducible exact spec_VerIdentifiers.mono _ _ _)
   | (with_reducible exact spec_VerLong.mono _ _)
   | (with_reducible exact spec_Version_Text.mono _ _ _ _ _)
   | (with_reducible exact LeO.refl _)
   | (with_reducible exact LeO.none _)
   | (with_reducible refine LeO.ite ?_ ?_)
   | (with_reducible refine LeO.bind ?_ (fun _ => ?_))
   | exact ih0 _ _ _ _ _ _ _
   | exact ih1 _ _ _ _ _ _ _
   | exact ih2 _ _ _ _ _ _
   | exact ih3 _ _ _ _ _
   | exact spec_SameVer.mono _ _ _ _ _ _ _ _ _ _ _ _ _
   | exact spec_VerIdentifiers.mono _ _ _
   | exact spec_VerLong.mono _ _
   | exact spec_Version_Text.mono _ _ _ _ _
   | exact LeO.none _
   | refine LeO.ite ?_ ?_
   | refine LeO.bind ?_ (fun _ => ?_)
  ·
   intro y0 y1 y2 y3 y4 y5 y6
   unfold laws_FnVersionMade.j1
   repeat' first
   | (with_reducible exact ih0 _ _ _ _ _ _ _)
   | (with_reducible exact ih1 _ _ _ _ _ _ _)
   | (with_reducible exact ih2 _ _ _ _ _ _)
   | (with_reducible exact ih3 _ _ _ _ _)
   | (with_reducible exact spec_SameVer.mono _ _ _ _ _ _ _ _ _ _ _ _ _)
   | (with_reducible exact spec_VerIdentifiers.mono _ _ _)
   | (with_reducible exact spec_VerLong.mono _ _)
   | (with_reducible exact spec_Version_Text.mono _ _ _ _ _)
   | (with_reducible exact LeO.refl _)
   | (with_reducible exact LeO.none _)
   | (with_reducible refine LeO.ite ?_ ?_)
   | (with_reducible refine LeO.bind ?_ (fun _ => ?_))
   | exact ih0 _ _ _ _ _ _ _
   | exact ih1 _ _ _ _ _ _ _
   | exact ih2 _ _ _ _ _ _
   | exact ih3 _ _ _ _ _
   | exact spec_SameVer.mono _ _ _ _ _ _ _ _ _ _ _ _ _
   | exact spec_VerIdentifiers.mono _ _ _
   | exact spec_VerLong.mono _ _
   | exact spec_Version_Text.mono _ _ _ _ _
   | exact LeO.none _
   | refine LeO.ite ?_ ?_
   | refine LeO.bind ?_ (fun _ => ?_)
  ·
   intro y0 y1 y2 y3 y4 y5
   unfold laws_FnVersionMade.j2
   repeat' first
   | (with_reducible exact ih0 _ _ _ _ _ _ _)
   | (with_reducible exact ih1 _ _ _ _ _ _ _)
   | (with_reducible exact ih2 _ _ _ _ _ _)
   | (with_reducible exact ih3 _ _ _ _ _)
   | (with_reducible exact spec_SameVer.mono _ _ _ _ _ _ _ _ _ _ _ _ _)
   | (with_reducible exact spec_VerIdentifiers.mono _ _ _)
   | (with_reducible exact spec_VerLong.mono _ _)
   | (with_reducible exact spec_Version_Text.mono _ _ _ _ _)
   | (with_reducible exact LeO.refl _)
   | (with_reducible exact LeO.none _)
   | (with_reducible refine LeO.ite ?_ ?_)
   | (with_reducible refine LeO.bind ?_ (fun _ => ?_))
   | exact ih0 _ _ _ _ _ _ _
   | exact ih1 _ _ _ _ _ _ _
   | exact ih2 _ _ _ _ _ _
   | exact ih3 _ _ _ _ _
   | exact spec_SameVer.mono _ _ _ _ _ _ _ _ _ _ _ _ _
   | exact spec_VerIdentifiers.mono _ _ _
   | exact spec_VerLong.mono _ _
   | exact spec_Version_Text.mono _ _ _ _ _
   | exact LeO.none _
   | refine LeO.ite ?_ ?_
   | refine LeO.bind ?_ (fun _ => ?_)
  ·
   intro y0 y1 y2 y3 y4
   unfold laws_FnVersionMade.j3
   repeat' first
   | (with_reducible exact ih0 _ _ _ _ _ _ _)
   | (with_reducible exact ih1 _ _ _ _ _ _ _)
   | (with_reducible exact ih2 _ _ _ _ _ _)
   | (with_reducible exact ih3 _ _ _ _ _)
   | (with_reducible exact spec_SameVer.mono _ _ _ _ _ _ _ _ _ _ _ _ _)
   | (with_reducible exact spec_VerIdentifiers.mono _ _ _)
   | (with_reducible exact spec_VerLong.mono _ _)
   | (with_reducible exact spec_Version_Text.mono _ _ _ _ _)
   | (with_reducible exact LeO.refl _)
   | (with_reducible exact LeO.none _)
   | (with_reducible refine LeO.ite ?_ ?_)
   | (with_reducible refine LeO.bind ?_ (fun _ => ?_))
   | exact ih0 _ _ _ _ _ _ _
   | exact ih1 _ _ _ _ _ _ _
   | exact ih2 _ _ _ _ _ _
   | exact ih3 _ _ _ _ _
   | exact spec_SameVer.mono _ _ _ _ _ _ _ _ _ _ _ _ _
   | exact spec_VerIdentifiers.mono _ _ _
   | exact spec_VerLong.mono _ _
   | exact spec_Version_Text.mono _ _ _ _ _
   | exact LeO.none _
   | refine LeO.ite ?_ ?_
   | refine LeO.bind ?_ (fun _ => ?_)
theorem laws_FnVersionMade.mono : ∀ a0 a1 a2 a3 a4 a5 k, LeO (laws_FnVersionMade.f k a0 a1 a2 a3 a4 a5) (laws_FnVersionMade.f (k + 1) a0 a1 a2 a3 a4 a5) := by
 intro a0 a1 a2 a3 a4 a5 k
 obtain ⟨ih0, ih1, ih2, ih3⟩ := laws_FnVersionMade.mono_l k
 unfold laws_FnVersionMade.f
 repeat' first
   | (with_reducible exact ih0 _ _ _ _ _ _ _)
   | (with_reducible exact ih1 _ _ _ _ _ _ _)
   | (with_reducible exact ih2 _ _ _ _ _ _)
   | (with_reducible exact ih3 _ _ _ _ _)
   | (with_reducible exact spec_SameVer.mono _ _ _ _ _ _ _ _ _ _ _ _ _)
   | (with_reducible exact spec_VerIdentifiers.mono _ _ _)
   | (with_reducible exact spec_VerLong.mono _ _)
   | (with_reducible exact spec_Version_Text.mono _ _ _ _ _)
   | (with_reducible exact LeO.refl _)
   | (with_reducible exact LeO.none _)
   | (with_reducible refine LeO.ite ?_ ?_)
   | (with_reducible refine LeO.bind ?_ (fun _ => ?_))
   | exact ih0 _ _ _ _ _ _ _
   | exact ih1 _ _ _ _ _ _ _
   | exact ih2 _ _ _ _ _ _
   | exact ih3 _ _ _ _ _
   | exact spec_SameVer.mono _ _ _ _ _ _ _ _ _ _ _ _ _
   | exact spec_VerIdentifiers.mono _ _ _
   | exact spec_VerLong.mono _ _
   | exact spec_Version_Text.mono _ _ _ _ _
   | exact LeO.none _
   | refine LeO.ite ?_ ?_
   | refine LeO.bind ?_ (fun _ => ?_)
def laws_FnVersionMade.T11 : Bool × List (List Nat × List Nat) := (true, [([], []), ([], []), ([1], [1]), ([0, 2, 2], [0, 2]), ([3, 3], [3]), ([4], [4]), ([4], [4]), ([6, 4, 4], [4, 6]), ([5, 7, 7, 4], [4, 5, 7]), ([4, 8], [4, 8]), ([9, 8, 0, 1, 2, 3, 4, 5, 6, 7, 8, 9], [9])])
def laws_FnVersionMade.B11 : List Nat := [0, 0, 2, 7, 15, 31, 31, 95, 255, 511, 1023]
theorem laws_FnVersionMade.tab11 : rtab .any (opsOf Tryd.f4 11) = laws_FnVersionMade.T11 := by kernel_rfl
theorem laws_FnVersionMade.bits11 : waitsOk laws_FnVersionMade.T11.2 laws_FnVersionMade.B11 = true := by kernel_rfl
set_option maxHeartbeats 8000000 in
set_option maxRecDepth 100000 in
theorem laws_FnVersionMade.calls (k : Nat) (a0 : Int) (a1 : Int) (a2 : Int) (a3 : ByteArray) (a4 : ByteArray) (a5 : Int) (r : Bool) (w : World) (h : laws_FnVersionMade.f k a0 a1 a2 a3 a4 a5 = some r) (hgood : Pv.Good w) :
  Calls Tryd.prog 4 #[.int .u64 a0, .int .u64 a1, .int .u64 a2, .string a3, .string a4, .int .u8 a5] w fun e w' => e = .returned (.bool r) ∧ Below w.heap.size w w' := by
 have HGd := aM_ hgood
 clear hgood
 have hu26 := Tryd.underlying26
 have HB := aM_ (Below.refl w.heap.size w)
 have H : (if (a3.size : Int) > 2147483647 then (laws_FnVersionMade.j0 k a0 a1 a2 a3 a4 a5 true) else (laws_FnVersionMade.j0 k a0 a1 a2 a3 a4 a5 (decide ((a4.size : Int) > 2147483647)))) = some r := h
 clear h
 have HC7 := aM_ H
 clear H
 go_enter Tryd.func4, Tryd.ntmps4
 go_upto_region 1 with (fail)
 go_cut [22] (fun v22 wc => ∃ (kq : Nat) (x22_6 : Bool), v22 = .bool x22_6 ∧ Aside0 (laws_FnVersionMade.j0 kq a0 a1 a2 a3 a4 a5 x22_6 = some r) ∧ Aside0 (kq ≤ k) ∧ Aside0 (Below w.heap.size w wc))
 case first =>
  have H := HC7.out
  clear HC7
  by_cases c8 : (a3.size : Int) > 2147483647
  ·
   rw [if_pos c8] at H
   have c8b0 : decide (2147483647 < (a3.size : Int)) = true := decide_eq_true c8
   have c8b1 : decide (2147483647 < a3.size) = true := decide_eq_true (by omega)
   clear c8
   (first | rw [c8b0] | (simp only [i64_w, i32_w]; rw [c8b0]) | skip)
   have H' := aM_ H
   clear H
   go_wp2
   go_meet
   case rel => exact ⟨_, (true), (by first | rfl | (simp; done) | (simp [*]; done)), H', ⟨by first | omega | exact Nat.le_refl _⟩, ⟨by repeat (first | (with_reducible first | exact HB.out | apply bB_ | apply wN_ | apply bE_) | exact HB.out)⟩⟩
  ·
   rw [if_neg c8] at H
   have c8b0 : decide (2147483647 < (a3.size : Int)) = false := decide_eq_false c8
   have c8b1 : decide (2147483647 < a3.size) = false := decide_eq_false (by omega)
   clear c8
   (first | rw [c8b0] | (simp only [i64_w, i32_w]; rw [c8b0]) | skip)
   have H' := aM_ H
   clear H
   go_wp2
   go_meet
   case rel => exact ⟨_, (decide ((a4.size : Int) > 2147483647)), (by first | rfl | (simp; done) | (simp [*]; done)), H', ⟨by first | omega | exact Nat.le_refl _⟩, ⟨by repeat (first | (with_reducible first | exact HB.out | apply bB_ | apply wN_ | apply bE_) | exact HB.out)⟩⟩
 case rest =>
  clear HC7
  try clear p2
  try clear c4
  try clear c8
  try clear c8b0
  try clear c8b1
  obtain ⟨kq, x22_6, rfl, HA, HJ6, HB⟩ := hcut
  cases kq with
  | zero => exact absurd HA.out (by simp [laws_FnVersionMade.j0])
  | succ kj6 =>
   have H := HA.out
   clear HA
   simp only [laws_FnVersionMade.j0] at H
   by_cases c9 : x22_6 = true
   ·
    subst c9
    have H1 : (some true) = some r := by rw [if_pos rfl] at H; exact H
    clear H
    have H := H1
    clear H1
    obtain rfl := Option.some.inj H
    go_wp2
    go_ret
    exact ⟨by first | rfl | (simp [errW_none, errW_some] <;> rfl) | (simp [*, errW_none, errW_some] <;> rfl) | (exfalso; contradiction), by repeat (first | (with_reducible first | exact HB.out | apply bB_ | apply wN_ | apply bE_) | exact HB.out)⟩
   ·
    replace c9 := Bool.eq_false_iff.mpr c9
    subst c9
    have H1 : (if a3.toList = ([] : List UInt8) then (if a4.toList = ([] : List UInt8) then ((spec_VerLong.f kj6 a3).bind fun t147 => (if t147 = true then (laws_FnVersionMade.j1 kj6 a0 a1 a2 a3 a4 a5 true) else ((spec_VerLong.f kj6 a4).bind fun t148 => (laws_FnVersionMade.j1 kj6 a0 a1 a2 a3 a4 a5 t148)))) else ((spec_VerIdentifiers.f kj6 a4 false).bind fun t149 => (if t149 = true then ((spec_VerLong.f kj6 a3).bind fun t150 => (if t150 = true then (laws_FnVersionMade.j1 kj6 a0 a1 a2 a3 a4 a5 true) else ((spec_VerLong.f kj6 a4).bind fun t151 => (laws_FnVersionMade.j1 kj6 a0 a1 a2 a3 a4 a5 t151)))) else (laws_FnVersionMade.j1 kj6 a0 a1 a2 a3 a4 a5 true)))) else ((spec_VerIdentifiers.f kj6 a3 true).bind fun t152 => (if t152 = true then (if a4.toList = ([] : List UInt8) then ((spec_VerLong.f kj6 a3).bind fun t153 => (if t153 = true then (laws_FnVersionMade.j1 kj6 a0 a1 a2 a3 a4 a5 true) else ((spec_VerLong.f kj6 a4).bind fun t154 => (laws_FnVersionMade.j1 kj6 a0 a1 a2 a3 a4 a5 t154)))) else ((spec_VerIdentifiers.f kj6 a4 false).bind fun t155 => (if t155 = true then ((spec_VerLong.f kj6 a3).bind fun t156 => (if t156 = true then (laws_FnVersionMade.j1 kj6 a0 a1 a2 a3 a4 a5 true) else ((spec_VerLong.f kj6 a4).bind fun t157 => (laws_FnVersionMade.j1 kj6 a0 a1 a2 a3 a4 a5 t157)))) else (laws_FnVersionMade.j1 kj6 a0 a1 a2 a3 a4 a5 true)))) else (laws_FnVersionMade.j1 kj6 a0 a1 a2 a3 a4 a5 true)))) = some r := by rw [if_neg (show ¬ (false = true) by decide)] at H; exact H
    clear H
    have H := H1
    clear H1
    have HC10 := aM_ H
    clear H
    go_upto_region 3 with (fail)
    go_cut [46] (fun v46 wc => ∃ (kq : Nat) (x46_9 : Bool), v46 = .bool x46_9 ∧ Aside0 (laws_FnVersionMade.j1 kq a0 a1 a2 a3 a4 a5 x46_9 = some r) ∧ Aside0 (kq ≤ kj6) ∧ Aside0 (Below w.heap.size w wc))
    case first =>
     have H := HC10.out
     clear HC10
     by_cases c11 : a3.toList = ([] : List UInt8)
     ·
      rw [if_pos c11] at H
      have c11b0 : (a3.toList == ([] : List UInt8)) = true := beq_iff_eq.mpr c11
      have c11b1 : (a3.toList != ([] : List UInt8)) = false := bne_eq_false_iff_eq.mpr c11
      clear c11
      (first | rw [c11b0] | (simp only [i64_w, i32_w]; rw [c11b0]) | skip)
      by_cases c12 : a4.toList = ([] : List UInt8)
      ·
       rw [if_pos c12] at H
       have c12b0 : (a4.toList == ([] : List UInt8)) = true := beq_iff_eq.mpr c12
       have c12b1 : (a4.toList != ([] : List UInt8)) = false := bne_eq_false_iff_eq.mpr c12
       clear c12
       replace H := Option.bind_eq_some_iff.mp H
       obtain ⟨t147, A130, H⟩ := H
       replace H : (if t147 = true then (laws_FnVersionMade.j1 kj6 a0 a1 a2 a3 a4 a5 true) else ((spec_VerLong.f kj6 a4).bind fun t148 => (laws_FnVersionMade.j1 kj6 a0 a1 a2 a3 a4 a5 t148))) = some r := H
       have A13 := aM_ A130
       clear A130
       by_cases c14 : t147 = true
       ·
        subst c14
        have H1 : (laws_FnVersionMade.j1 kj6 a0 a1 a2 a3 a4 a5 true) = some r := by rw [if_pos rfl] at H; exact H
        clear H
        have H := H1
        clear H1
        have H' := aM_ H
        clear H
        go_wp2_with (first | (go_at_call 12; (with_reducible refine (spec_VerLong.calls kj6 a3 true _ A13.out).mono ?_); rintro e w' ⟨rfl, ⟨nd, rfl⟩⟩))
        go_meet
        case rel => exact ⟨_, (true), (by first | rfl | (simp; done) | (simp [*]; done)), H', ⟨by have := HJ6.out; first | omega | exact Nat.le_refl _⟩, ⟨by repeat (first | (with_reducible first | exact HB.out | apply bB_ | apply wN_ | apply bE_) | exact HB.out)⟩⟩
       ·
        replace c14 := Bool.eq_false_iff.mpr c14
        subst c14
        have H1 : ((spec_VerLong.f kj6 a4).bind fun t148 => (laws_FnVersionMade.j1 kj6 a0 a1 a2 a3 a4 a5 t148)) = some r := by rw [if_neg (show ¬ (false = true) by decide)] at H; exact H
        clear H
        have H := H1
        clear H1
        replace H := Option.bind_eq_some_iff.mp H
        obtain ⟨t148, A150, H⟩ := H
        replace H : (laws_FnVersionMade.j1 kj6 a0 a1 a2 a3 a4 a5 t148) = some r := H
        have A15 := aM_ A150
        clear A150
        have H' := aM_ H
        clear H
        go_wp2_with (first | (go_at_call 12; (with_reducible refine (spec_VerLong.calls kj6 a3 false _ A13.out).mono ?_); rintro e w' ⟨rfl, ⟨nd, rfl⟩⟩) | (go_at_call 12; (with_reducible refine (spec_VerLong.calls kj6 a4 t148 _ A15.out).mono ?_); rintro e w' ⟨rfl, ⟨nd, rfl⟩⟩))
        go_meet
        case rel => exact ⟨_, (t148), (by first | rfl | (simp; done) | (simp [*]; done)), H', ⟨by have := HJ6.out; first | omega | exact Nat.le_refl _⟩, ⟨by repeat (first | (with_reducible first | exact HB.out | apply bB_ | apply wN_ | apply bE_) | exact HB.out)⟩⟩
      ·
       rw [if_neg c12] at H
       have c12b0 : (a4.toList == ([] : List UInt8)) = false := beq_eq_false_iff_ne.mpr c12
       have c12b1 : (a4.toList != ([] : List UInt8)) = true := bne_iff_ne.mpr c12
       replace H := Option.bind_eq_some_iff.mp H
       obtain ⟨t149, A160, H⟩ := H
       replace H : (if t149 = true then ((spec_VerLong.f kj6 a3).bind fun t150 => (if t150 = true then (laws_FnVersionMade.j1 kj6 a0 a1 a2 a3 a4 a5 true) else ((spec_VerLong.f kj6 a4).bind fun t151 => (laws_FnVersionMade.j1 kj6 a0 a1 a2 a3 a4 a5 t151)))) else (laws_FnVersionMade.j1 kj6 a0 a1 a2 a3 a4 a5 true)) = some r := H
       have A16 := aM_ A160
       clear A160
       by_cases c17 : t149 = true
       ·
        subst c17
        have H1 : ((spec_VerLong.f kj6 a3).bind fun t150 => (if t150 = true then (laws_FnVersionMade.j1 kj6 a0 a1 a2 a3 a4 a5 true) else ((spec_VerLong.f kj6 a4).bind fun t151 => (laws_FnVersionMade.j1 kj6 a0 a1 a2 a3 a4 a5 t151)))) = some r := by rw [if_pos rfl] at H; exact H
        clear H
        have H := H1
        clear H1
        replace H := Option.bind_eq_some_iff.mp H
        obtain ⟨t150, A180, H⟩ := H
        replace H : (if t150 = true then (laws_FnVersionMade.j1 kj6 a0 a1 a2 a3 a4 a5 true) else ((spec_VerLong.f kj6 a4).bind fun t151 => (laws_FnVersionMade.j1 kj6 a0 a1 a2 a3 a4 a5 t151))) = some r := H
        have A18 := aM_ A180
        clear A180
        by_cases c19 : t150 = true
        ·
         subst c19
         have H1 : (laws_FnVersionMade.j1 kj6 a0 a1 a2 a3 a4 a5 true) = some r := by rw [if_pos rfl] at H; exact H
         clear H
         have H := H1
         clear H1
         have H' := aM_ H
         clear H
         go_wp2_with (first | (go_at_call 11; (with_reducible refine (spec_VerIdentifiers.calls kj6 a4 false true _ A16.out).mono ?_); rintro e w20 ⟨rfl, hb⟩; have n0_ := aM_ (below_step (by repeat (first | (with_reducible first | exact HB.out | apply bB_ | apply wN_ | apply bE_) | exact HB.out)) hb); clear HB; have HB := n0_; clear n0_; (try clear hb); (try clear hb2); (try clear hk); (try clear hi)) | (go_at_call 12; (with_reducible refine (spec_VerLong.calls kj6 a3 true _ A18.out).mono ?_); rintro e w' ⟨rfl, ⟨nd, rfl⟩⟩))
         go_meet
         case rel => exact ⟨_, (true), (by first | rfl | (simp; done) | (simp [*]; done)), H', ⟨by have := HJ6.out; first | omega | exact Nat.le_refl _⟩, ⟨by repeat (first | (with_reducible first | exact HB.out | apply bB_ | apply wN_ | apply bE_) | exact HB.out)⟩⟩
        ·
         replace c19 := Bool.eq_false_iff.mpr c19
         subst c19
         have H1 : ((spec_VerLong.f kj6 a4).bind fun t151 => (laws_FnVersionMade.j1 kj6 a0 a1 a2 a3 a4 a5 t151)) = some r := by rw [if_neg (show ¬ (false = true) by decide)] at H; exact H
         clear H
         have H := H1
         clear H1
         replace H := Option.bind_eq_some_iff.mp H
         obtain ⟨t151, A210, H⟩ := H
         replace H : (laws_FnVersionMade.j1 kj6 a0 a1 a2 a3 a4 a5 t151) = some r := H
         have A21 := aM_ A210
         clear A210
         have H' := aM_ H
         clear H
         go_wp2_with (first | (go_at_call 11; (with_reducible refine (spec_VerIdentifiers.calls kj6 a4 false true _ A16.out).mono ?_); rintro e w22 ⟨rfl, hb⟩; have n0_ := aM_ (below_step (by repeat (first | (with_reducible first | exact HB.out | apply bB_ | apply wN_ | apply bE_) | exact HB.out)) hb); clear HB; have HB := n0_; clear n0_; (try clear hb); (try clear hb2); (try clear hk); (try clear hi)) | (go_at_call 12; (with_reducible refine (spec_VerLong.calls kj6 a3 false _ A18.out).mono ?_); rintro e w' ⟨rfl, ⟨nd, rfl⟩⟩) | (go_at_call 12; (with_reducible refine (spec_VerLong.calls kj6 a4 t151 _ A21.out).mono ?_); rintro e w' ⟨rfl, ⟨nd, rfl⟩⟩))
         go_meet
         case rel => exact ⟨_, (t151), (by first | rfl | (simp; done) | (simp [*]; done)), H', ⟨by have := HJ6.out; first | omega | exact Nat.le_refl _⟩, ⟨by repeat (first | (with_reducible first | exact HB.out | apply bB_ | apply wN_ | apply bE_) | exact HB.out)⟩⟩
       ·
        replace c17 := Bool.eq_false_iff.mpr c17
        subst c17
        have H1 : (laws_FnVersionMade.j1 kj6 a0 a1 a2 a3 a4 a5 true) = some r := by rw [if_neg (show ¬ (false = true) by decide)] at H; exact H
        clear H
        have H := H1
        clear H1
        have H' := aM_ H
        clear H
        go_wp2_with (first | (go_at_call 11; (with_reducible refine (spec_VerIdentifiers.calls kj6 a4 false false _ A16.out).mono ?_); rintro e w23 ⟨rfl, hb⟩; have n0_ := aM_ (below_step (by repeat (first | (with_reducible first | exact HB.out | apply bB_ | apply wN_ | apply bE_) | exact HB.out)) hb); clear HB; have HB := n0_; clear n0_; (try clear hb); (try clear hb2); (try clear hk); (try clear hi)))
        go_meet
        case rel => exact ⟨_, (true), (by first | rfl | (simp; done) | (simp [*]; done)), H', ⟨by have := HJ6.out; first | omega | exact Nat.le_refl _⟩, ⟨by repeat (first | (with_reducible first | exact HB.out | apply bB_ | apply wN_ | apply bE_) | exact HB.out)⟩⟩
     ·
      rw [if_neg c11] at H
      have c11b0 : (a3.toList == ([] : List UInt8)) = false := beq_eq_false_iff_ne.mpr c11
      have c11b1 : (a3.toList != ([] : List UInt8)) = true := bne_iff_ne.mpr c11
      (first | rw [c11b0] | (simp only [i64_w, i32_w]; rw [c11b0]) | skip)
      replace H := Option.bind_eq_some_iff.mp H
      obtain ⟨t152, A240, H⟩ := H
      replace H : (if t152 = true then (if a4.toList = ([] : List UInt8) then ((spec_VerLong.f kj6 a3).bind fun t153 => (if t153 = true then (laws_FnVersionMade.j1 kj6 a0 a1 a2 a3 a4 a5 true) else ((spec_VerLong.f kj6 a4).bind fun t154 => (laws_FnVersionMade.j1 kj6 a0 a1 a2 a3 a4 a5 t154)))) else ((spec_VerIdentifiers.f kj6 a4 false).bind fun t155 => (if t155 = true then ((spec_VerLong.f kj6 a3).bind fun t156 => (if t156 = true then (laws_FnVersionMade.j1 kj6 a0 a1 a2 a3 a4 a5 true) else ((spec_VerLong.f kj6 a4).bind fun t157 => (laws_FnVersionMade.j1 kj6 a0 a1 a2 a3 a4 a5 t157)))) else (laws_FnVersionMade.j1 kj6 a0 a1 a2 a3 a4 a5 true)))) else (laws_FnVersionMade.j1 kj6 a0 a1 a2 a3 a4 a5 true)) = some r := H
      have A24 := aM_ A240
      clear A240
      by_cases c25 : t152 = true
      ·
       subst c25
       have H1 : (if a4.toList = ([] : List UInt8) then ((spec_VerLong.f kj6 a3).bind fun t153 => (if t153 = true then (laws_FnVersionMade.j1 kj6 a0 a1 a2 a3 a4 a5 true) else ((spec_VerLong.f kj6 a4).bind fun t154 => (laws_FnVersionMade.j1 kj6 a0 a1 a2 a3 a4 a5 t154)))) else ((spec_VerIdentifiers.f kj6 a4 false).bind fun t155 => (if t155 = true then ((spec_VerLong.f kj6 a3).bind fun t156 => (if t156 = true then (laws_FnVersionMade.j1 kj6 a0 a1 a2 a3 a4 a5 true) else ((spec_VerLong.f kj6 a4).bind fun t157 => (laws_FnVersionMade.j1 kj6 a0 a1 a2 a3 a4 a5 t157)))) else (laws_FnVersionMade.j1 kj6 a0 a1 a2 a3 a4 a5 true)))) = some r := by rw [if_pos rfl] at H; exact H
       clear H
       have H := H1
       clear H1
       by_cases c26 : a4.toList = ([] : List UInt8)
       ·
        rw [if_pos c26] at H
        have c26b0 : (a4.toList == ([] : List UInt8)) = true := beq_iff_eq.mpr c26
        have c26b1 : (a4.toList != ([] : List UInt8)) = false := bne_eq_false_iff_eq.mpr c26
        clear c26
        replace H := Option.bind_eq_some_iff.mp H
        obtain ⟨t153, A270, H⟩ := H
        replace H : (if t153 = true then (laws_FnVersionMade.j1 kj6 a0 a1 a2 a3 a4 a5 true) else ((spec_VerLong.f kj6 a4).bind fun t154 => (laws_FnVersionMade.j1 kj6 a0 a1 a2 a3 a4 a5 t154))) = some r := H
        have A27 := aM_ A270
        clear A270
        by_cases c28 : t153 = true
        ·
         subst c28
         have H1 : (laws_FnVersionMade.j1 kj6 a0 a1 a2 a3 a4 a5 true) = some r := by rw [if_pos rfl] at H; exact H
         clear H
         have H := H1
         clear H1
         have H' := aM_ H
         clear H
         go_wp2_with (first | (go_at_call 11; (with_reducible refine (spec_VerIdentifiers.calls kj6 a3 true true _ A24.out).mono ?_); rintro e w29 ⟨rfl, hb⟩; have n0_ := aM_ (below_step (by repeat (first | (with_reducible first | exact HB.out | apply bB_ | apply wN_ | apply bE_) | exact HB.out)) hb); clear HB; have HB := n0_; clear n0_; (try clear hb); (try clear hb2); (try clear hk); (try clear hi)) | (go_at_call 12; (with_reducible refine (spec_VerLong.calls kj6 a3 true _ A27.out).mono ?_); rintro e w' ⟨rfl, ⟨nd, rfl⟩⟩))
         go_meet
         case rel => exact ⟨_, (true), (by first | rfl | (simp; done) | (simp [*]; done)), H', ⟨by have := HJ6.out; first | omega | exact Nat.le_refl _⟩, ⟨by repeat (first | (with_reducible first | exact HB.out | apply bB_ | apply wN_ | apply bE_) | exact HB.out)⟩⟩
        ·
         replace c28 := Bool.eq_false_iff.mpr c28
         subst c28
         have H1 : ((spec_VerLong.f kj6 a4).bind fun t154 => (laws_FnVersionMade.j1 kj6 a0 a1 a2 a3 a4 a5 t154)) = some r := by rw [if_neg (show ¬ (false = true) by decide)] at H; exact H
         clear H
         have H := H1
         clear H1
         replace H := Option.bind_eq_some_iff.mp H
         obtain ⟨t154, A300, H⟩ := H
         replace H : (laws_FnVersionMade.j1 kj6 a0 a1 a2 a3 a4 a5 t154) = some r := H
         have A30 := aM_ A300
         clear A300
         have H' := aM_ H
         clear H
         go_wp2_with (first | (go_at_call 11; (with_reducible refine (spec_VerIdentifiers.calls kj6 a3 true true _ A24.out).mono ?_); rintro e w31 ⟨rfl, hb⟩; have n0_ := aM_ (below_step (by repeat (first | (with_reducible first | exact HB.out | apply bB_ | apply wN_ | apply bE_) | exact HB.out)) hb); clear HB; have HB := n0_; clear n0_; (try clear hb); (try clear hb2); (try clear hk); (try clear hi)) | (go_at_call 12; (with_reducible refine (spec_VerLong.calls kj6 a3 false _ A27.out).mono ?_); rintro e w' ⟨rfl, ⟨nd, rfl⟩⟩) | (go_at_call 12; (with_reducible refine (spec_VerLong.calls kj6 a4 t154 _ A30.out).mono ?_); rintro e w' ⟨rfl, ⟨nd, rfl⟩⟩))
         go_meet
         case rel => exact ⟨_, (t154), (by first | rfl | (simp; done) | (simp [*]; done)), H', ⟨by have := HJ6.out; first | omega | exact Nat.le_refl _⟩, ⟨by repeat (first | (with_reducible first | exact HB.out | apply bB_ | apply wN_ | apply bE_) | exact HB.out)⟩⟩
       ·
        rw [if_neg c26] at H
        have c26b0 : (a4.toList == ([] : List UInt8)) = false := beq_eq_false_iff_ne.mpr c26
        have c26b1 : (a4.toList != ([] : List UInt8)) = true := bne_iff_ne.mpr c26
        replace H := Option.bind_eq_some_iff.mp H
        obtain ⟨t155, A320, H⟩ := H
        replace H : (if t155 = true then ((spec_VerLong.f kj6 a3).bind fun t156 => (if t156 = true then (laws_FnVersionMade.j1 kj6 a0 a1 a2 a3 a4 a5 true) else ((spec_VerLong.f kj6 a4).bind fun t157 => (laws_FnVersionMade.j1 kj6 a0 a1 a2 a3 a4 a5 t157)))) else (laws_FnVersionMade.j1 kj6 a0 a1 a2 a3 a4 a5 true)) = some r := H
        have A32 := aM_ A320
        clear A320
        by_cases c33 : t155 = true
        ·
         subst c33
         have H1 : ((spec_VerLong.f kj6 a3).bind fun t156 => (if t156 = true then (laws_FnVersionMade.j1 kj6 a0 a1 a2 a3 a4 a5 true) else ((spec_VerLong.f kj6 a4).bind fun t157 => (laws_FnVersionMade.j1 kj6 a0 a1 a2 a3 a4 a5 t157)))) = some r := by rw [if_pos rfl] at H; exact H
         clear H
         have H := H1
         clear H1
         replace H := Option.bind_eq_some_iff.mp H
         obtain ⟨t156, A340, H⟩ := H
         replace H : (if t156 = true then (laws_FnVersionMade.j1 kj6 a0 a1 a2 a3 a4 a5 true) else ((spec_VerLong.f kj6 a4).bind fun t157 => (laws_FnVersionMade.j1 kj6 a0 a1 a2 a3 a4 a5 t157))) = some r := H
         have A34 := aM_ A340
         clear A340
         by_cases c35 : t156 = true
         ·
          subst c35
          have H1 : (laws_FnVersionMade.j1 kj6 a0 a1 a2 a3 a4 a5 true) = some r := by rw [if_pos rfl] at H; exact H
          clear H
          have H := H1
          clear H1
          have H' := aM_ H
          clear H
          go_wp2_with (first | (go_at_call 11; (with_reducible refine (spec_VerIdentifiers.calls kj6 a3 true true _ A24.out).mono ?_); rintro e w36 ⟨rfl, hb⟩; have n0_ := aM_ (below_step (by repeat (first | (with_reducible first | exact HB.out | apply bB_ | apply wN_ | apply bE_) | exact HB.out)) hb); clear HB; have HB := n0_; clear n0_; (try clear hb); (try clear hb2); (try clear hk); (try clear hi)) | (go_at_call 11; (with_reducible refine (spec_VerIdentifiers.calls kj6 a4 false true _ A32.out).mono ?_); rintro e w37 ⟨rfl, hb⟩; have n0_ := aM_ (below_step (by repeat (first | (with_reducible first | exact HB.out | apply bB_ | apply wN_ | apply bE_) | exact HB.out)) hb); clear HB; have HB := n0_; clear n0_; (try clear hb); (try clear hb2); (try clear hk); (try clear hi)) | (go_at_call 12; (with_reducible refine (spec_VerLong.calls kj6 a3 true _ A34.out).mono ?_); rintro e w' ⟨rfl, ⟨nd, rfl⟩⟩))
          go_meet
          case rel => exact ⟨_, (true), (by first | rfl | (simp; done) | (simp [*]; done)), H', ⟨by have := HJ6.out; first | omega | exact Nat.le_refl _⟩, ⟨by repeat (first | (with_reducible first | exact HB.out | apply bB_ | apply wN_ | apply bE_) | exact HB.out)⟩⟩
         ·
          replace c35 := Bool.eq_false_iff.mpr c35
          subst c35
          have H1 : ((spec_VerLong.f kj6 a4).bind fun t157 => (laws_FnVersionMade.j1 kj6 a0 a1 a2 a3 a4 a5 t157)) = some r := by rw [if_neg (show ¬ (false = true) by decide)] at H; exact H
          clear H
          have H := H1
          clear H1
          replace H := Option.bind_eq_some_iff.mp H
          obtain ⟨t157, A380, H⟩ := H
          replace H : (laws_FnVersionMade.j1 kj6 a0 a1 a2 a3 a4 a5 t157) = some r := H
          have A38 := aM_ A380
          clear A380
          have H' := aM_ H
          clear H
          go_wp2_with (first | (go_at_call 11; (with_reducible refine (spec_VerIdentifiers.calls kj6 a3 true true _ A24.out).mono ?_); rintro e w39 ⟨rfl, hb⟩; have n0_ := aM_ (below_step (by repeat (first | (with_reducible first | exact HB.out | apply bB_ | apply wN_ | apply bE_) | exact HB.out)) hb); clear HB; have HB := n0_; clear n0_; (try clear hb); (try clear hb2); (try clear hk); (try clear hi)) | (go_at_call 11; (with_reducible refine (spec_VerIdentifiers.calls kj6 a4 false true _ A32.out).mono ?_); rintro e w40 ⟨rfl, hb⟩; have n0_ := aM_ (below_step (by repeat (first | (with_reducible first | exact HB.out | apply bB_ | apply wN_ | apply bE_) | exact HB.out)) hb); clear HB; have HB := n0_; clear n0_; (try clear hb); (try clear hb2); (try clear hk); (try clear hi)) | (go_at_call 12; (with_reducible refine (spec_VerLong.calls kj6 a3 false _ A34.out).mono ?_); rintro e w' ⟨rfl, ⟨nd, rfl⟩⟩) | (go_at_call 12; (with_reducible refine (spec_VerLong.calls kj6 a4 t157 _ A38.out).mono ?_); rintro e w' ⟨rfl, ⟨nd, rfl⟩⟩))
          go_meet
          case rel => exact ⟨_, (t157), (by first | rfl | (simp; done) | (simp [*]; done)), H', ⟨by have := HJ6.out; first | omega | exact Nat.le_refl _⟩, ⟨by repeat (first | (with_reducible first | exact HB.out | apply bB_ | apply wN_ | apply bE_) | exact HB.out)⟩⟩
        ·
         replace c33 := Bool.eq_false_iff.mpr c33
         subst c33
         have H1 : (laws_FnVersionMade.j1 kj6 a0 a1 a2 a3 a4 a5 true) = some r := by rw [if_neg (show ¬ (false = true) by decide)] at H; exact H
         clear H
         have H := H1
         clear H1
         have H' := aM_ H
         clear H
         go_wp2_with (first | (go_at_call 11; (with_reducible refine (spec_VerIdentifiers.calls kj6 a3 true true _ A24.out).mono ?_); rintro e w41 ⟨rfl, hb⟩; have n0_ := aM_ (below_step (by repeat (first | (with_reducible first | exact HB.out | apply bB_ | apply wN_ | apply bE_) | exact HB.out)) hb); clear HB; have HB := n0_; clear n0_; (try clear hb); (try clear hb2); (try clear hk); (try clear hi)) | (go_at_call 11; (with_reducible refine (spec_VerIdentifiers.calls kj6 a4 false false _ A32.out).mono ?_); rintro e w42 ⟨rfl, hb⟩; have n0_ := aM_ (below_step (by repeat (first | (with_reducible first | exact HB.out | apply bB_ | apply wN_ | apply bE_) | exact HB.out)) hb); clear HB; have HB := n0_; clear n0_; (try clear hb); (try clear hb2); (try clear hk); (try clear hi)))
         go_meet
         case rel => exact ⟨_, (true), (by first | rfl | (simp; done) | (simp [*]; done)), H', ⟨by have := HJ6.out; first | omega | exact Nat.le_refl _⟩, ⟨by repeat (first | (with_reducible first | exact HB.out | apply bB_ | apply wN_ | apply bE_) | exact HB.out)⟩⟩
      ·
       replace c25 := Bool.eq_false_iff.mpr c25
       subst c25
       have H1 : (laws_FnVersionMade.j1 kj6 a0 a1 a2 a3 a4 a5 true) = some r := by rw [if_neg (show ¬ (false = true) by decide)] at H; exact H
       clear H
       have H := H1
       clear H1
       have H' := aM_ H
       clear H
       go_wp2_with (first | (go_at_call 11; (with_reducible refine (spec_VerIdentifiers.calls kj6 a3 true false _ A24.out).mono ?_); rintro e w43 ⟨rfl, hb⟩; have n0_ := aM_ (below_step (by repeat (first | (with_reducible first | exact HB.out | apply bB_ | apply wN_ | apply bE_) | exact HB.out)) hb); clear HB; have HB := n0_; clear n0_; (try clear hb); (try clear hb2); (try clear hk); (try clear hi)))
       go_meet
       case rel => exact ⟨_, (true), (by first | rfl | (simp; done) | (simp [*]; done)), H', ⟨by have := HJ6.out; first | omega | exact Nat.le_refl _⟩, ⟨by repeat (first | (with_reducible first | exact HB.out | apply bB_ | apply wN_ | apply bE_) | exact HB.out)⟩⟩
    case rest =>
     clear HC10
     try clear c1
     try clear c2
     try clear p2
     try clear c3
     try clear c4
     try clear c8
     try clear c8b0
     try clear c8b1
     try clear c9
     try clear c11
     try clear c11b0
     try clear c11b1
     try clear c12
     try clear c12b0
     try clear c12b1
     try clear c14
     try clear c17
     try clear c19
     try clear c25
     try clear c26
     try clear c26b0
     try clear c26b1
     try clear c28
     try clear c33
     try clear c35
     try clear p2
     obtain ⟨kq, x46_9, rfl, HA, HJ9, HB⟩ := hcut
     cases kq with
     | zero => exact absurd HA.out (by simp [laws_FnVersionMade.j1])
     | succ kj9 =>
      have H := HA.out
      clear HA
      simp only [laws_FnVersionMade.j1] at H
      by_cases c44 : x46_9 = true
      ·
       subst c44
       have H1 : (some true) = some r := by rw [if_pos rfl] at H; exact H
       clear H
       have H := H1
       clear H1
       obtain rfl := Option.some.inj H
       go_wp2
       go_ret
       exact ⟨by first | rfl | (simp [errW_none, errW_some] <;> rfl) | (simp [*, errW_none, errW_some] <;> rfl) | (exfalso; contradiction), by repeat (first | (with_reducible first | exact HB.out | apply bB_ | apply wN_ | apply bE_) | exact HB.out)⟩
      ·
       replace c44 := Bool.eq_false_iff.mpr c44
       subst c44
       have H1 : ((some (([a0, a1, a2] : List Int) : List Int)).bind fun y158 => ((spec_Version_Text.f kj9 y158 true a3 a4).bind fun t162 => (if (Int.tmod a5 2) = 1 then (if 1 + t162.size ≤ 9223372036854775807 then (laws_FnVersionMade.j2 kj9 a5 ((⟨#[118]⟩ : ByteArray) ++ t162) y158 true a3 a4) else (none)) else (laws_FnVersionMade.j2 kj9 a5 t162 y158 true a3 a4)))) = some r := by rw [if_neg (show ¬ (false = true) by decide)] at H; exact H
       clear H
       have H := H1
       clear H1
       obtain ⟨y158, hy158⟩ : ∃ y_ : List Int, y_ = (([a0, a1, a2] : List Int)) := ⟨_, rfl⟩
       replace H : ((spec_Version_Text.f kj9 y158 true a3 a4).bind fun t162 => (if (Int.tmod a5 2) = 1 then (if 1 + t162.size ≤ 9223372036854775807 then (laws_FnVersionMade.j2 kj9 a5 ((⟨#[118]⟩ : ByteArray) ++ t162) y158 true a3 a4) else (none)) else (laws_FnVersionMade.j2 kj9 a5 t162 y158 true a3 a4))) = some r := by first | (rw [hy158]; with_reducible exact H) | (have H2_ := (Option.bind_some _ _).symm.trans H; rw [hy158]; with_reducible exact H2_) | (have H2_ := (Option.bind_some _ _).symm.trans H; with_reducible exact H2_) | with_reducible exact H | (rw [hy158]; exact H) | exact H
       have Ny158 := aM_ hy158
       clear hy158
       replace H := Option.bind_eq_some_iff.mp H
       obtain ⟨t162, A450, H⟩ := H
       replace H : (if (Int.tmod a5 2) = 1 then (if 1 + t162.size ≤ 9223372036854775807 then (laws_FnVersionMade.j2 kj9 a5 ((⟨#[118]⟩ : ByteArray) ++ t162) y158 true a3 a4) else (none)) else (laws_FnVersionMade.j2 kj9 a5 t162 y158 true a3 a4)) = some r := H
       have A45 := aM_ A450
       clear A450
       have HC46 := aM_ H
       clear H
       go_upto_if 58 with (first | ((with_reducible refine gate_dst (N := 50) rfl ?_); (try (refine gate_guard (by rfl) ?_; dsimp only)); refine Kd.R_lit (Kd.int .u64) _ 22 ?hg (N := 50) ?hd (xs := ([a0, a1, a2] : List Int)) (inner := [.int .u64 a0, .int .u64 a1, .int .u64 a2]) (ok := fun _ => True) (okp := fun _ => True) ?hr ?hp (fun _ hk => hk) trivial (Below.refl _ _) (Nat.le_refl _) (by simp) ?_; (case hd => rfl); (case hg => rfl); (case hr => first | (go_simp; done) | (go_simp; rfl)); (case hp => exact (Reps.one (show Kd.M (Kd.int .u64) _ _ _ a0 [.int .u64 a0] from rfl) (Reps.one (show Kd.M (Kd.int .u64) _ _ _ a1 [.int .u64 a1] from rfl) (Reps.one (show Kd.M (Kd.int .u64) _ _ _ a2 [.int .u64 a2] from rfl) (Reps.none _ _))))); intro v159 w47 ho48 hb hg_ hnew_; clear hg_ hnew_; (first | rw [← Ny158.out] at ho48 | (simp only [Int.reduceToNat] at ho48; rw [← Ny158.out] at ho48)); have n0_ := aM_ (Kd.R_lower ho48 (below_size (by repeat (first | (with_reducible first | exact HB.out | apply bB_ | apply wN_ | apply bE_) | exact HB.out)))); have n1_ := aM_ (below_step (by repeat (first | (with_reducible first | exact HB.out | apply bB_ | apply wN_ | apply bE_) | exact HB.out)) hb); clear HB; have HO160 := n0_; have HB := n1_; clear n0_ n1_; clear hb ho48; obtain ⟨Ao49, co49, eo49⟩ := Kd.R_slice HO160.out; subst eo49) | ((with_reducible refine gate_dst (N := 13) rfl ?_); (try (refine gate_guard (by rfl) ?_; dsimp only)); refine box_event ?hg (N := 13) ?hd (cs := #[.slice none 0 0, .bool false, .string (⟨#[]⟩ : ByteArray), .string (⟨#[]⟩ : ByteArray)]) (t := 26) ?hr ?_; (case hd => rfl); (case hg => rfl); (case hr => first | (go_simp; done) | (go_simp; rfl)); intro gb161 hg w50 hbox hb; have n0_ := aM_ (Kd.R_below (by (with_reducible repeat (first | apply kA_ | apply kN_ | apply kD_)); exact HO160.out) hb); have n1_ := aM_ (below_step (by repeat (first | (with_reducible first | exact HB.out | apply bB_ | apply wN_ | apply bE_) | exact HB.out)) hb); have n2_ := aM_ (hbox); have n3_ := aM_ ((by rw [hg]; exact (below_size (by repeat (first | (with_reducible first | exact HB.out | apply bB_ | apply wN_ | apply bE_) | exact HB.out))) : w.heap.size ≤ gb161)); have n4_ := aM_ ((by rw [hg]; exact (below_size (by repeat (first | (with_reducible first | exact HB.out | apply bB_ | apply wN_ | apply bE_) | exact HB.out))) : w.heap.size ≤ gb161)); clear HO160; clear HB; have HO160 := n0_; have HB := n1_; have BK161 := n2_; have GW161 := n3_; have GE161 := n4_; clear n0_ n1_ n2_ n3_ n4_; clear hb hbox hg; have hcz51_0 : w50.cell? ⟨gb161, 0, none⟩ = some (.slice none 0 0) := (bC_ BK161.out 0).trans rfl; have hcz51_1 : w50.cell? ⟨gb161, 1, none⟩ = some (.bool false) := (bC_ BK161.out 1).trans rfl; have hcz51_2 : w50.cell? ⟨gb161, 2, none⟩ = some (.string (⟨#[]⟩ : ByteArray)) := (bC_ BK161.out 2).trans rfl; have hcz51_3 : w50.cell? ⟨gb161, 3, none⟩ = some (.string (⟨#[]⟩ : ByteArray)) := (bC_ BK161.out 3).trans rfl; have hfz51_0 := bF_ BK161.out 0; have hfz51_1 := bF_ BK161.out 1; have hfz51_2 := bF_ BK161.out 2; have hfz51_3 := bF_ BK161.out 3) | ((with_reducible refine gate_callee (f := 13) rfl ?_); refine goesL_ (some 55) rfl rfl Tryd.func13 (by kernel_rfl) rfl #[.agg #[.slice Ao49 y158.length co49, .bool true, .string a3, .string a4]] rfl (by (try simp only [List.map_toArray, List.map_cons, List.map_nil]); first | done | rfl | (simp only [List.length_drop, List.length_take]; rfl)) ?_; (with_reducible refine (spec_Version_Text.calls kj9 _ _ y158 true a3 a4 t162 _ ?side1 ?side2 A45.out).mono ?_); (case side1 => refine (Kd.R_reads' (e := 22) (base := w.heap.size) (ok := fun k_ => True) (n := y158.length) (c := co49) ?_).2.2; exact (by (with_reducible repeat (first | apply kA_ | apply kN_ | apply kD_)); exact (Kd.R_mono (Kd.R_far (p := ⟨gb161, 3, none⟩) (Kd.R_far (p := ⟨gb161, 2, none⟩) (Kd.R_far (p := ⟨gb161, 1, none⟩) (Kd.R_far (p := ⟨gb161, 0, none⟩) (Kd.R_types HO160.out BK161.out (by decide)) (fun _ hk => hk.2) (.slice Ao49 y158.length co49)) (fun _ hk => hk.2) (.bool true)) (fun _ hk => hk.2) (.string a3)) (fun _ hk => hk.2) (.string a4)) (fun _ h_ => h_.1)))); (case side2 => exact (Kd.R_reads' HO160.out).2.1); rintro e w52 ⟨rfl, hb⟩; refine ⟨_, rfl, ?_⟩; have n0_ := aM_ (Kd.R_below (by (with_reducible repeat (first | apply kA_ | apply kN_ | apply kD_)); exact (Kd.R_mono (Kd.R_far (p := ⟨gb161, 3, none⟩) (Kd.R_far (p := ⟨gb161, 2, none⟩) (Kd.R_far (p := ⟨gb161, 1, none⟩) (Kd.R_far (p := ⟨gb161, 0, none⟩) (Kd.R_types HO160.out BK161.out (by decide)) (fun _ hk => hk.2) (.slice Ao49 y158.length co49)) (fun _ hk => hk.2) (.bool true)) (fun _ hk => hk.2) (.string a3)) (fun _ hk => hk.2) (.string a4)) (fun _ h_ => h_.1))) hb); have n1_ := aM_ (blk_below (g := gb161) (o := .cells #[.slice Ao49 y158.length co49, .bool true, .string a3, .string a4] 26 (0, 0)) (by (with_reducible repeat (first | refine bN_ ?_ _ | refine bD_ ?_ | refine bA_ ?_ _)); refine blk_put (cs := #[.slice Ao49 y158.length co49, .bool true, .string a3, .string (⟨#[]⟩ : ByteArray)]) ?_ 3 _ rfl; (with_reducible repeat (first | refine bN_ ?_ _ | refine bD_ ?_ | refine bA_ ?_ _)); refine blk_put (cs := #[.slice Ao49 y158.length co49, .bool true, .string (⟨#[]⟩ : ByteArray), .string (⟨#[]⟩ : ByteArray)]) ?_ 2 _ rfl; (with_reducible repeat (first | refine bN_ ?_ _ | refine bD_ ?_ | refine bA_ ?_ _)); refine blk_put (cs := #[.slice Ao49 y158.length co49, .bool false, .string (⟨#[]⟩ : ByteArray), .string (⟨#[]⟩ : ByteArray)]) ?_ 1 _ rfl; (with_reducible repeat (first | refine bN_ ?_ _ | refine bD_ ?_ | refine bA_ ?_ _)); refine blk_put (cs := #[.slice none 0 0, .bool false, .string (⟨#[]⟩ : ByteArray), .string (⟨#[]⟩ : ByteArray)]) ?_ 0 _ rfl; (with_reducible repeat (first | refine bN_ ?_ _ | refine bD_ ?_ | refine bA_ ?_ _)); exact BK161.out) hb); have n2_ := aM_ (below_step (by repeat (first | (with_reducible first | exact HB.out | apply bB_ | apply wN_ | apply bE_ | refine bS_ ?_ GE161.out) | exact HB.out)) hb); clear HO160; clear BK161; clear HB; have HO160 := n0_; have BK161 := n1_; have HB := n2_; clear n0_ n1_ n2_; (try clear hb); (try clear hb2); (try clear hk); (try clear hi)))
       (try simp only [Act.put, List.setIfInBounds_toArray, List.set_cons_zero, List.set_cons_succ])
       go_cut [14] (fun v14 wc => ∃ (kq : Nat) (x14_45 : ByteArray), v14 = .string x14_45 ∧ Aside0 (laws_FnVersionMade.j2 kq a5 x14_45 y158 true a3 a4 = some r) ∧ Aside0 (kq ≤ kj9) ∧ Aside0 (Kd.R (Kd.int .u64) 22 wc w.heap.size (fun _ => True) (.slice Ao49 y158.length co49) y158) ∧ Aside0 (wc.heap[gb161]? = some (.cells #[(.slice Ao49 y158.length co49), .bool true, .string a3, .string a4] 26 (0, 0))) ∧ Aside0 (Below w.heap.size w wc))
       case first =>
        have H := HC46.out
        clear HC46
        by_cases c53 : (Int.tmod a5 2) = 1
        ·
         rw [if_pos c53] at H
         have c53b0 : ((Int.tmod a5 2) == 1) = true := beq_iff_eq.mpr c53
         have c53b1 : ((Int.tmod a5 2) != 1) = false := bne_eq_false_iff_eq.mpr c53
         clear c53
         (first | rw [c53b0] | (simp only [i64_w, i32_w]; rw [c53b0]) | skip)
         by_cases c54 : 1 + t162.size ≤ 9223372036854775807
         ·
          rw [if_pos c54] at H
          have c54b0 := eq_true c54
          have c54b1 : decide (1 + t162.size ≤ 9223372036854775807) = true := decide_eq_true c54
          try have c54b2 : (9223372036854775807 < 1 + t162.size) = False := eq_false (Nat.not_lt.2 c54)
          have H' := aM_ H
          clear H
          go_wp2
          go_meet
          case rel => exact ⟨_, ((⟨#[118]⟩ : ByteArray) ++ t162), (by first | rfl | (simp; done) | (simp [*]; done)), H', ⟨by have := HJ6.out; have := HJ9.out; first | omega | exact Nat.le_refl _⟩, ⟨by (with_reducible repeat (first | apply kA_ | apply kN_ | apply kD_)); exact HO160.out⟩, ⟨by (with_reducible repeat (first | refine bN_ ?_ _ | refine bD_ ?_ | refine bA_ ?_ _)); exact BK161.out⟩, ⟨by repeat (first | (with_reducible first | exact HB.out | apply bB_ | apply wN_ | apply bE_ | refine bS_ ?_ GE161.out) | exact HB.out)⟩⟩
         ·
          rw [if_neg c54] at H
          exact absurd H (by simp)
        ·
         rw [if_neg c53] at H
         have c53b0 : ((Int.tmod a5 2) == 1) = false := beq_eq_false_iff_ne.mpr c53
         have c53b1 : ((Int.tmod a5 2) != 1) = true := bne_iff_ne.mpr c53
         (first | rw [c53b0] | (simp only [i64_w, i32_w]; rw [c53b0]) | skip)
         have H' := aM_ H
         clear H
         go_wp2
         go_meet
         case rel => exact ⟨_, (t162), (by first | rfl | (simp; done) | (simp [*]; done)), H', ⟨by have := HJ6.out; have := HJ9.out; first | omega | exact Nat.le_refl _⟩, ⟨by (with_reducible repeat (first | apply kA_ | apply kN_ | apply kD_)); exact HO160.out⟩, ⟨by (with_reducible repeat (first | refine bN_ ?_ _ | refine bD_ ?_ | refine bA_ ?_ _)); exact BK161.out⟩, ⟨by repeat (first | (with_reducible first | exact HB.out | apply bB_ | apply wN_ | apply bE_ | refine bS_ ?_ GE161.out) | exact HB.out)⟩⟩
       case rest =>
        clear HC46
        try clear c1
        try clear c2
        try clear p2
        try clear c3
        try clear c4
        try clear c5
        try clear c8
        try clear c8b0
        try clear c8b1
        try clear c9
        try clear c11
        try clear c11b0
        try clear c11b1
        try clear c12
        try clear c12b0
        try clear c12b1
        try clear c13
        try clear c14
        try clear c17
        try clear c19
        try clear c25
        try clear c26
        try clear c26b0
        try clear c26b1
        try clear c28
        try clear c33
        try clear c35
        try clear c44
        try clear c53
        try clear c53b0
        try clear c53b1
        try clear c54
        try clear c54b0
        try clear c54b1
        try clear c54b2
        try clear hcz51_0
        try clear hcz51_1
        try clear hcz51_2
        try clear hcz51_3
        try clear hfz51_0
        try clear hfz51_1
        try clear hfz51_2
        try clear hfz51_3
        try clear p2
        obtain ⟨kq, x14_45, rfl, HA, HJ45, HO_162000, BK161, HB⟩ := hcut
        cases kq with
        | zero => exact absurd HA.out (by simp [laws_FnVersionMade.j2])
        | succ kj45 =>
         have H := HA.out
         clear HA
         simp only [laws_FnVersionMade.j2] at H
         have HC55 := aM_ H
         clear H
         go_upto_if 63 with (fail)
         go_cut [14] (fun v14 wc => ∃ (kq : Nat) (x14_54 : ByteArray), v14 = .string x14_54 ∧ Aside0 (laws_FnVersionMade.j3 kq x14_54 y158 true a3 a4 = some r) ∧ Aside0 (kq ≤ kj45) ∧ Aside0 (Kd.R (Kd.int .u64) 22 wc w.heap.size (fun _ => True) (.slice Ao49 y158.length co49) y158) ∧ Aside0 (wc.heap[gb161]? = some (.cells #[(.slice Ao49 y158.length co49), .bool true, .string a3, .string a4] 26 (0, 0))) ∧ Aside0 (Below w.heap.size w wc))
         case first =>
          have H := HC55.out
          clear HC55
          by_cases c56 : (Int.tmod a5 4) > 1
          ·
           rw [if_pos c56] at H
           have c56b0 : decide (1 < (Int.tmod a5 4)) = true := decide_eq_true c56
           clear c56
           (first | rw [c56b0] | (simp only [i64_w, i32_w]; rw [c56b0]) | skip)
           by_cases c57 : 2 + x14_45.size ≤ 9223372036854775807
           ·
            rw [if_pos c57] at H
            have c57b0 := eq_true c57
            have c57b1 : decide (2 + x14_45.size ≤ 9223372036854775807) = true := decide_eq_true c57
            try have c57b2 : (9223372036854775807 < 2 + x14_45.size) = False := eq_false (Nat.not_lt.2 c57)
            by_cases c58 : ((⟨#[32, 9]⟩ : ByteArray) ++ x14_45).size + 1 ≤ 9223372036854775807
            ·
             rw [if_pos c58] at H
             have c58b0 := eq_true c58
             have c58b1 : decide (((⟨#[32, 9]⟩ : ByteArray) ++ x14_45).size + 1 ≤ 9223372036854775807) = true := decide_eq_true c58
             try have c58b2 : (9223372036854775807 < ((⟨#[32, 9]⟩ : ByteArray) ++ x14_45).size + 1) = False := eq_false (Nat.not_lt.2 c58)
             try have c58b7 : (9223372036854775807 < 2 + x14_45.size + 1) = False := eq_false (Nat.not_lt.2 (by have h_ := c58; simp only [ByteArray.size_append] at h_; exact h_))
             have H' := aM_ H
             clear H
             go_wp2
             go_meet
             case rel => exact ⟨_, (((⟨#[32, 9]⟩ : ByteArray) ++ x14_45) ++ (⟨#[32]⟩ : ByteArray)), (by first | rfl | (simp; done) | (simp [*]; done)), H', ⟨by have := HJ6.out; have := HJ9.out; have := HJ45.out; first | omega | exact Nat.le_refl _⟩, ⟨by (with_reducible repeat (first | apply kA_ | apply kN_ | apply kD_)); exact HO_162000.out⟩, ⟨by (with_reducible repeat (first | refine bN_ ?_ _ | refine bD_ ?_ | refine bA_ ?_ _)); exact BK161.out⟩, ⟨by repeat (first | (with_reducible first | exact HB.out | apply bB_ | apply wN_ | apply bE_ | refine bS_ ?_ GE161.out) | exact HB.out)⟩⟩
            ·
             rw [if_neg c58] at H
             exact absurd H (by simp)
           ·
            rw [if_neg c57] at H
            exact absurd H (by simp)
          ·
           rw [if_neg c56] at H
           have c56b0 : decide (1 < (Int.tmod a5 4)) = false := decide_eq_false c56
           clear c56
           (first | rw [c56b0] | (simp only [i64_w, i32_w]; rw [c56b0]) | skip)
           have H' := aM_ H
           clear H
           go_wp2
           go_meet
           case rel => exact ⟨_, (x14_45), (by first | rfl | (simp; done) | (simp [*]; done)), H', ⟨by have := HJ6.out; have := HJ9.out; have := HJ45.out; first | omega | exact Nat.le_refl _⟩, ⟨by (with_reducible repeat (first | apply kA_ | apply kN_ | apply kD_)); exact HO_162000.out⟩, ⟨by (with_reducible repeat (first | refine bN_ ?_ _ | refine bD_ ?_ | refine bA_ ?_ _)); exact BK161.out⟩, ⟨by repeat (first | (with_reducible first | exact HB.out | apply bB_ | apply wN_ | apply bE_ | refine bS_ ?_ GE161.out) | exact HB.out)⟩⟩
         case rest =>
          clear HC55
          try clear c1
          try clear c2
          try clear p2
          try clear c3
          try clear c4
          try clear c5
          try clear c8
          try clear c8b0
          try clear c8b1
          try clear c9
          try clear c11
          try clear c11b0
          try clear c11b1
          try clear c12
          try clear c12b0
          try clear c12b1
          try clear c13
          try clear c14
          try clear c17
          try clear c19
          try clear c25
          try clear c26
          try clear c26b0
          try clear c26b1
          try clear c28
          try clear c33
          try clear c35
          try clear c44
          try clear c53
          try clear c53b0
          try clear c53b1
          try clear c54
          try clear c54b0
          try clear c54b1
          try clear c54b2
          try clear c56
          try clear c56b0
          try clear c57
          try clear c57b0
          try clear c57b1
          try clear c57b2
          try clear c58
          try clear c58b0
          try clear c58b1
          try clear c58b2
          try clear hcz51_0
          try clear hcz51_1
          try clear hcz51_2
          try clear hcz51_3
          try clear hfz51_0
          try clear hfz51_1
          try clear hfz51_2
          try clear hfz51_3
          try clear p2
          obtain ⟨kq, x14_54, rfl, HA, HJ54, HO_162000, BK161, HB⟩ := hcut
          cases kq with
          | zero => exact absurd HA.out (by simp [laws_FnVersionMade.j3])
          | succ kj54 =>
           have H := HA.out
           clear HA
           simp only [laws_FnVersionMade.j3] at H
           replace H := Option.bind_eq_some_iff.mp H
           obtain ⟨⟨t163, t164, t167, t168, t169, t170, t171, t172⟩, A590, H⟩ := H
           replace H : ((spec_SameVer.f kj54 y158 true a3 a4 t163 t164 t167 t168 t169 t170 t171 t172).bind fun t173 => (if t173 = true then ((impl_VersionParse.f 0 x14_54).bind fun bt174 => ((spec_SameVer.f kj54 y158 true a3 a4 bt174.1 bt174.2.1 bt174.2.2.1 bt174.2.2.2.1 bt174.2.2.2.2.1 bt174.2.2.2.2.2.1 bt174.2.2.2.2.2.2.1 bt174.2.2.2.2.2.2.2).bind fun t184 => (some t184))) else (some false))) = some r := H
           have A59 := aM_ A590
           clear A590
           replace H := Option.bind_eq_some_iff.mp H
           obtain ⟨t173, A600, H⟩ := H
           replace H : (if t173 = true then ((impl_VersionParse.f 0 x14_54).bind fun bt174 => ((spec_SameVer.f kj54 y158 true a3 a4 bt174.1 bt174.2.1 bt174.2.2.1 bt174.2.2.2.1 bt174.2.2.2.2.1 bt174.2.2.2.2.2.1 bt174.2.2.2.2.2.2.1 bt174.2.2.2.2.2.2.2).bind fun t184 => (some t184))) else (some false)) = some r := H
           have A60 := aM_ A600
           clear A600
           by_cases c61 : t173 = true
           ·
            subst c61
            have H1 : ((impl_VersionParse.f 0 x14_54).bind fun bt174 => ((spec_SameVer.f kj54 y158 true a3 a4 bt174.1 bt174.2.1 bt174.2.2.1 bt174.2.2.2.1 bt174.2.2.2.2.1 bt174.2.2.2.2.2.1 bt174.2.2.2.2.2.2.1 bt174.2.2.2.2.2.2.2).bind fun t184 => (some t184))) = some r := by rw [if_pos rfl] at H; exact H
            clear H
            have H := H1
            clear H1
            replace H := Option.bind_eq_some_iff.mp H
            obtain ⟨⟨t174, t175, t178, t179, t180, t181, t182, t183⟩, A620, H⟩ := H
            replace H : ((spec_SameVer.f kj54 y158 true a3 a4 t174 t175 t178 t179 t180 t181 t182 t183).bind fun t184 => (some t184)) = some r := H
            have A62 := aM_ A620
            clear A620
            replace H := Option.bind_eq_some_iff.mp H
            obtain ⟨t184, A630, H⟩ := H
            replace H : (some t184) = some r := H
            have A63 := aM_ A630
            clear A630
            obtain rfl := Option.some.inj H
            try go_wp2
            have n0_ := aM_ (kD_ HO_162000.out)
            have n1_ := aM_ (bD_ BK161.out)
            have n2_ := aM_ (bE_ HB.out)
            clear HO_162000
            clear BK161
            clear HB
            have HO_162000 := n0_
            have BK161 := n1_
            have HB := n2_
            clear n0_ n1_ n2_
            refine start_ (n := 11) (S := fun w' => w'.cell? ⟨gb161, 0, none⟩ = some (.slice Ao49 y158.length co49) ∧ w'.cell? ⟨gb161, 1, none⟩ = some (.bool true) ∧ w'.cell? ⟨gb161, 2, none⟩ = some (.string a3) ∧ w'.cell? ⟨gb161, 3, none⟩ = some (.string a4)) (ds := []) #[false, false, false, false, false, false, false, false, false, false, false] (by kernel_rfl) rfl rfl ⟨(bC_ BK161.out 0).trans rfl, (bC_ BK161.out 1).trans rfl, (bC_ BK161.out 2).trans rfl, (bC_ BK161.out 3).trans rfl⟩ (fun hHeld => ?_); refine with_tabW laws_FnVersionMade.tab11 laws_FnVersionMade.bits11 (fun HT_ HW_ => ?_)
            generalize wc.drew = w64 at HO_162000 BK161 HB hHeld ⊢
            refine pure_ (i := 1) (N := some 68) (v := ?_) (a' := ?_) #[false, true, false, false, false, false, false, false, false, false, false] rfl rfl (any_of HT_.out (by kernel_rfl)) (fun _ _ _ h => h) (Or.inl ⟨by rfl, ?_⟩) ?_ ?_
            rotate_left
            ·
             intro w'
             go_simp
             with_reducible rfl
            rotate_left
            ·
             simp only [Act.put, List.setIfInBounds_toArray, List.set_cons_zero, List.set_cons_succ, i64_w, i32_w]
             rfl
            refine take_ (i := 0) (N := some 67) (v := ?_) (a' := ?_) #[true, true, false, false, false, false, false, false, false, false, false] rfl rfl (take_ofW HT_.out HW_.out (by kernel_rfl)) (fun _ _ _ h => h) (Or.inl ⟨by rfl, ?_⟩) hHeld ?_ ?_
            rotate_left
            ·
             rintro w' ⟨s0, s1, s2, s3⟩
             go_simp
             with_reducible rfl
            rotate_left
            ·
             simp only [Act.put, List.setIfInBounds_toArray, List.set_cons_zero, List.set_cons_succ, i64_w, i32_w]
             rfl
            refine one_ (i := 2) (N := some 69) #[true, true, true, false, false, false, false, false, false, false, false] rfl rfl (one_of HT_.out (by kernel_rfl)) (by decide) (fun K hK => ?_)
            refine goes_ Tryd.func14 (by kernel_rfl) rfl #[.int .i64 2, .string x14_54] (by rfl) rfl rfl (by (try simp only [List.map_toArray, List.map_cons, List.map_nil]); first | done | rfl | (simp only [List.length_drop, List.length_take]; rfl)) ?_
            with_reducible refine (impl_VersionParse.calls 2 x14_54 t163 t164 t167 t168 t169 t170 t171 t172 _ A59.out (HGd.out.below (by repeat (first | (with_reducible first | exact HB.out | apply bB_ | apply wN_ | apply bE_ | refine bS_ ?_ GE161.out) | exact HB.out)))).mono ?_
            rintro e w65 ⟨v165, rfl, ho0, hb⟩
            refine ⟨_, rfl, ?_⟩
            have n0_ := aM_ (Kd.R_elder' (by (with_reducible repeat (first | apply kA_ | apply kN_ | apply kD_)); exact HO_162000.out) (Kd.R_base ho0) hb)
            have n1_ := aM_ (Kd.R_lower (Kd.R_new' ho0 (Kd.R_lt (by (with_reducible repeat (first | apply kA_ | apply kN_ | apply kD_)); exact HO_162000.out))) (below_size (by repeat (first | (with_reducible first | exact HB.out | apply bB_ | apply wN_ | apply bE_ | refine bS_ ?_ GE161.out) | exact HB.out))))
            have n2_ := aM_ (blk_below (g := gb161) (o := .cells #[.slice Ao49 y158.length co49, .bool true, .string a3, .string a4] 26 (0, 0)) (by (with_reducible repeat (first | refine bN_ ?_ _ | refine bD_ ?_ | refine bA_ ?_ _)); exact BK161.out) hb)
            have n3_ := aM_ (below_step (by repeat (first | (with_reducible first | exact HB.out | apply bB_ | apply wN_ | apply bE_ | refine bS_ ?_ GE161.out) | exact HB.out)) hb)
            clear HO_162000
            clear BK161
            clear HB
            have HO_162000 := n0_
            have HO166 := n1_
            have BK161 := n2_
            have HB := n3_
            clear n0_ n1_ n2_ n3_
            (try clear hb)
            (try clear hb2)
            (try clear hk)
            (try clear hi)
            (try clear ho0)
            obtain ⟨Ao66, co66, eo66⟩ := Kd.R_slice HO166.out
            (first | subst eo66 | (injection eo66 with f1_ f2_ f3_; have f4_ := f1_.symm; have f5_ := f3_.symm; clear f1_ f2_ f3_; subst f4_; subst f5_))
            refine hK.out _ _ ⟨(bC_ BK161.out 0).trans rfl, (bC_ BK161.out 1).trans rfl, (bC_ BK161.out 2).trans rfl, (bC_ BK161.out 3).trans rfl⟩ (fun hHeld => ?_)
            clear hK K
            refine norm_ (a' := ?_) ?_ ?_
            rotate_left
            ·
             show Act.put _ (some 69) _ = _
             simp only [Act.put, List.setIfInBounds_toArray, List.set_cons_zero, List.set_cons_succ, i64_w, i32_w]
             rfl
            refine one_ (i := 3) (N := some 70) #[true, true, true, true, false, false, false, false, false, false, false] rfl rfl (one_of HT_.out (by kernel_rfl)) (by decide) (fun K hK => ?_)
            refine goes_ Tryd.func9 (by kernel_rfl) rfl #[.agg #[.slice Ao49 y158.length co49, .bool true, .string a3, .string a4], .agg #[.bool t163, .slice Ao66 t164.length co66, .string t167, .string t168, .string t169, .int .u64 t170, .int .u64 t171, .int .u64 t172]] (by rfl) rfl rfl (by (try simp only [List.map_toArray, List.map_cons, List.map_nil]); first | done | rfl | (simp only [List.length_drop, List.length_take]; rfl)) ?_
            with_reducible refine (spec_SameVer.calls kj54 _ _ y158 true a3 a4 t163 _ _ t164 t167 t168 t169 t170 t171 t172 true _ ?side1 ?side2 ?side3 ?side4 A60.out).mono ?_
            (case side1 => repeat (first | exact (Kd.R_reads' HO_162000.out).2.2 | (with_reducible refine Kd.C_alloc ?_ _) | (with_reducible refine Kd.C_drewN ?_ _) | (with_reducible refine Kd.C_drew ?_)))
            (case side2 => exact (Kd.R_reads' HO_162000.out).2.1)
            (case side3 => repeat (first | exact (Kd.R_reads' HO166.out).2.2 | (with_reducible refine Kd.C_alloc ?_ _) | (with_reducible refine Kd.C_drewN ?_ _) | (with_reducible refine Kd.C_drew ?_)))
            (case side4 => exact (Kd.R_reads' HO166.out).2.1)
            rintro e w67 ⟨rfl, hb⟩
            refine ⟨_, rfl, ?_⟩
            have n0_ := aM_ (Kd.R_below (by (with_reducible repeat (first | apply kA_ | apply kN_ | apply kD_)); exact HO_162000.out) hb)
            have n1_ := aM_ (Kd.R_below (by (with_reducible repeat (first | apply kA_ | apply kN_ | apply kD_)); exact HO166.out) hb)
            have n2_ := aM_ (blk_below (g := gb161) (o := .cells #[.slice Ao49 y158.length co49, .bool true, .string a3, .string a4] 26 (0, 0)) (by (with_reducible repeat (first | refine bN_ ?_ _ | refine bD_ ?_ | refine bA_ ?_ _)); exact BK161.out) hb)
            have n3_ := aM_ (below_step (by repeat (first | (with_reducible first | exact HB.out | apply bB_ | apply wN_ | apply bE_ | refine bS_ ?_ GE161.out) | exact HB.out)) hb)
            clear HO_162000
            clear HO166
            clear BK161
            clear HB
            have HO_162000 := n0_
            have HO166 := n1_
            have BK161 := n2_
            have HB := n3_
            clear n0_ n1_ n2_ n3_
            (try clear hb)
            (try clear hb2)
            (try clear hk)
            (try clear hi)
            refine hK.out _ _ ⟨(bC_ BK161.out 0).trans rfl, (bC_ BK161.out 1).trans rfl, (bC_ BK161.out 2).trans rfl, (bC_ BK161.out 3).trans rfl⟩ (fun hHeld => ?_)
            clear hK K
            refine norm_ (a' := ?_) ?_ ?_
            rotate_left
            ·
             show Act.put _ (some 70) _ = _
             simp only [Act.put, List.setIfInBounds_toArray, List.set_cons_zero, List.set_cons_succ, i64_w, i32_w]
             rfl
            refine pure_ (i := 4) (N := some 71) (v := ?_) (a' := ?_) #[true, true, true, true, true, false, false, false, false, false, false] rfl rfl (any_of HT_.out (by kernel_rfl)) (fun _ _ _ h => h) (Or.inl ⟨by rfl, ?_⟩) ?_ ?_
            rotate_left
            ·
             intro w'
             go_simp
             with_reducible rfl
            rotate_left
            ·
             simp only [Act.put, List.setIfInBounds_toArray, List.set_cons_zero, List.set_cons_succ, i64_w, i32_w]
             rfl
            refine pure_ (i := 6) (N := some 73) (v := ?_) (a' := ?_) #[true, true, true, true, true, false, true, false, false, false, false] rfl rfl (any_of HT_.out (by kernel_rfl)) (fun _ _ _ h => h) (Or.inl ⟨by rfl, ?_⟩) ?_ ?_
            rotate_left
            ·
             intro w'
             go_simp
             with_reducible rfl
            rotate_left
            ·
             simp only [Act.put, List.setIfInBounds_toArray, List.set_cons_zero, List.set_cons_succ, i64_w, i32_w]
             rfl
            refine take_ (i := 5) (N := some 72) (v := ?_) (a' := ?_) #[true, true, true, true, true, true, true, false, false, false, false] rfl rfl (take_ofW HT_.out HW_.out (by kernel_rfl)) (fun _ _ _ h => h) (Or.inl ⟨by rfl, ?_⟩) hHeld ?_ ?_
            rotate_left
            ·
             rintro w' ⟨s0, s1, s2, s3⟩
             go_simp
             with_reducible rfl
            rotate_left
            ·
             simp only [Act.put, List.setIfInBounds_toArray, List.set_cons_zero, List.set_cons_succ, i64_w, i32_w]
             rfl
            refine one_ (i := 7) (N := some 74) #[true, true, true, true, true, true, true, true, false, false, false] rfl rfl (one_of HT_.out (by kernel_rfl)) (by decide) (fun K hK => ?_)
            refine goes_ Tryd.func14 (by kernel_rfl) rfl #[.int .i64 0, .string x14_54] (by rfl) rfl rfl (by (try simp only [List.map_toArray, List.map_cons, List.map_nil]); first | done | rfl | (simp only [List.length_drop, List.length_take]; rfl)) ?_
            with_reducible refine (impl_VersionParse.calls 0 x14_54 t174 t175 t178 t179 t180 t181 t182 t183 _ A62.out (HGd.out.below (by repeat (first | (with_reducible first | exact HB.out | apply bB_ | apply wN_ | apply bE_ | refine bS_ ?_ GE161.out) | exact HB.out)))).mono ?_
            rintro e w68 ⟨v176, rfl, ho0, hb⟩
            refine ⟨_, rfl, ?_⟩
            have n0_ := aM_ (Kd.R_elder' (by (with_reducible repeat (first | apply kA_ | apply kN_ | apply kD_)); exact HO_162000.out) (Kd.R_base ho0) hb)
            have n1_ := aM_ (Kd.R_elder' (by (with_reducible repeat (first | apply kA_ | apply kN_ | apply kD_)); exact HO166.out) (Kd.R_base ho0) hb)
            have n2_ := aM_ (Kd.R_lower (Kd.R_new' (Kd.R_new' ho0 (Kd.R_lt (by (with_reducible repeat (first | apply kA_ | apply kN_ | apply kD_)); exact HO_162000.out))) (Kd.R_lt (by (with_reducible repeat (first | apply kA_ | apply kN_ | apply kD_)); exact HO166.out))) (below_size (by repeat (first | (with_reducible first | exact HB.out | apply bB_ | apply wN_ | apply bE_ | refine bS_ ?_ GE161.out) | exact HB.out))))
            have n3_ := aM_ (blk_below (g := gb161) (o := .cells #[.slice Ao49 y158.length co49, .bool true, .string a3, .string a4] 26 (0, 0)) (by (with_reducible repeat (first | refine bN_ ?_ _ | refine bD_ ?_ | refine bA_ ?_ _)); exact BK161.out) hb)
            have n4_ := aM_ (below_step (by repeat (first | (with_reducible first | exact HB.out | apply bB_ | apply wN_ | apply bE_ | refine bS_ ?_ GE161.out) | exact HB.out)) hb)
            clear HO_162000
            clear HO166
            clear BK161
            clear HB
            have HO_162000 := n0_
            have HO166 := n1_
            have HO177 := n2_
            have BK161 := n3_
            have HB := n4_
            clear n0_ n1_ n2_ n3_ n4_
            (try clear hb)
            (try clear hb2)
            (try clear hk)
            (try clear hi)
            (try clear ho0)
            obtain ⟨Ao69, co69, eo69⟩ := Kd.R_slice HO177.out
            (first | subst eo69 | (injection eo69 with f1_ f2_ f3_; have f4_ := f1_.symm; have f5_ := f3_.symm; clear f1_ f2_ f3_; subst f4_; subst f5_))
            refine hK.out _ _ ⟨(bC_ BK161.out 0).trans rfl, (bC_ BK161.out 1).trans rfl, (bC_ BK161.out 2).trans rfl, (bC_ BK161.out 3).trans rfl⟩ (fun hHeld => ?_)
            clear hK K
            refine norm_ (a' := ?_) ?_ ?_
            rotate_left
            ·
             show Act.put _ (some 74) _ = _
             simp only [Act.put, List.setIfInBounds_toArray, List.set_cons_zero, List.set_cons_succ, i64_w, i32_w]
             rfl
            refine one_ (i := 8) (N := some 75) #[true, true, true, true, true, true, true, true, true, false, false] rfl rfl (one_of HT_.out (by kernel_rfl)) (by decide) (fun K hK => ?_)
            refine goes_ Tryd.func9 (by kernel_rfl) rfl #[.agg #[.slice Ao49 y158.length co49, .bool true, .string a3, .string a4], .agg #[.bool t174, .slice Ao69 t175.length co69, .string t178, .string t179, .string t180, .int .u64 t181, .int .u64 t182, .int .u64 t183]] (by rfl) rfl rfl (by (try simp only [List.map_toArray, List.map_cons, List.map_nil]); first | done | rfl | (simp only [List.length_drop, List.length_take]; rfl)) ?_
            with_reducible refine (spec_SameVer.calls kj54 _ _ y158 true a3 a4 t174 _ _ t175 t178 t179 t180 t181 t182 t183 t184 _ ?side1 ?side2 ?side3 ?side4 A63.out).mono ?_
            (case side1 => repeat (first | exact (Kd.R_reads' HO_162000.out).2.2 | (with_reducible refine Kd.C_alloc ?_ _) | (with_reducible refine Kd.C_drewN ?_ _) | (with_reducible refine Kd.C_drew ?_)))
            (case side2 => exact (Kd.R_reads' HO_162000.out).2.1)
            (case side3 => repeat (first | exact (Kd.R_reads' HO177.out).2.2 | (with_reducible refine Kd.C_alloc ?_ _) | (with_reducible refine Kd.C_drewN ?_ _) | (with_reducible refine Kd.C_drew ?_)))
            (case side4 => exact (Kd.R_reads' HO177.out).2.1)
            rintro e w70 ⟨rfl, hb⟩
            refine ⟨_, rfl, ?_⟩
            have n0_ := aM_ (Kd.R_below (by (with_reducible repeat (first | apply kA_ | apply kN_ | apply kD_)); exact HO_162000.out) hb)
            have n1_ := aM_ (Kd.R_below (by (with_reducible repeat (first | apply kA_ | apply kN_ | apply kD_)); exact HO166.out) hb)
            have n2_ := aM_ (Kd.R_below (by (with_reducible repeat (first | apply kA_ | apply kN_ | apply kD_)); exact HO177.out) hb)
            have n3_ := aM_ (blk_below (g := gb161) (o := .cells #[.slice Ao49 y158.length co49, .bool true, .string a3, .string a4] 26 (0, 0)) (by (with_reducible repeat (first | refine bN_ ?_ _ | refine bD_ ?_ | refine bA_ ?_ _)); exact BK161.out) hb)
            have n4_ := aM_ (below_step (by repeat (first | (with_reducible first | exact HB.out | apply bB_ | apply wN_ | apply bE_ | refine bS_ ?_ GE161.out) | exact HB.out)) hb)
            clear HO_162000
            clear HO166
            clear HO177
            clear BK161
            clear HB
            have HO_162000 := n0_
            have HO166 := n1_
            have HO177 := n2_
            have BK161 := n3_
            have HB := n4_
            clear n0_ n1_ n2_ n3_ n4_
            (try clear hb)
            (try clear hb2)
            (try clear hk)
            (try clear hi)
            refine hK.out _ _ ⟨(bC_ BK161.out 0).trans rfl, (bC_ BK161.out 1).trans rfl, (bC_ BK161.out 2).trans rfl, (bC_ BK161.out 3).trans rfl⟩ (fun hHeld => ?_)
            clear hK K
            refine norm_ (a' := ?_) ?_ ?_
            rotate_left
            ·
             show Act.put _ (some 75) _ = _
             simp only [Act.put, List.setIfInBounds_toArray, List.set_cons_zero, List.set_cons_succ, i64_w, i32_w]
             rfl
            refine pure_ (i := 9) (N := some 76) (v := ?_) (a' := ?_) #[true, true, true, true, true, true, true, true, true, true, false] rfl rfl (any_of HT_.out (by kernel_rfl)) (fun _ _ _ h => h) (Or.inl ⟨by rfl, ?_⟩) ?_ ?_
            rotate_left
            ·
             intro w'
             go_simp
             with_reducible rfl
            rotate_left
            ·
             simp only [Act.put, List.setIfInBounds_toArray, List.set_cons_zero, List.set_cons_succ, i64_w, i32_w]
             rfl
            refine pure_ (i := 10) (N := some 12) (v := ?_) (a' := ?_) #[true, true, true, true, true, true, true, true, true, true, true] rfl rfl (any_of HT_.out (by kernel_rfl)) (fun _ _ _ h => h) (Or.inl ⟨by rfl, ?_⟩) ?_ ?_
            rotate_left
            ·
             intro w'
             go_simp
             with_reducible rfl
            rotate_left
            ·
             simp only [Act.put, List.setIfInBounds_toArray, List.set_cons_zero, List.set_cons_succ, i64_w, i32_w]
             rfl
            refine done_ (done_of HT_.out (by kernel_rfl)) ?_
            try go_wp2
            go_ret
            exact ⟨by first | rfl | (simp [errW_none, errW_some] <;> rfl) | (simp [*, errW_none, errW_some] <;> rfl) | (exfalso; contradiction), by repeat (first | (with_reducible first | exact HB.out | apply bB_ | apply wN_ | apply bE_ | refine bS_ ?_ GE161.out) | exact HB.out)⟩
           ·
            replace c61 := Bool.eq_false_iff.mpr c61
            subst c61
            have H1 : (some false) = some r := by rw [if_neg (show ¬ (false = true) by decide)] at H; exact H
            clear H
            have H := H1
            clear H1
            obtain rfl := Option.some.inj H
            try go_wp2
            have n0_ := aM_ (kD_ HO_162000.out)
            have n1_ := aM_ (bD_ BK161.out)
            have n2_ := aM_ (bE_ HB.out)
            clear HO_162000
            clear BK161
            clear HB
            have HO_162000 := n0_
            have BK161 := n1_
            have HB := n2_
            clear n0_ n1_ n2_
            refine start_ (n := 11) (S := fun w' => w'.cell? ⟨gb161, 0, none⟩ = some (.slice Ao49 y158.length co49) ∧ w'.cell? ⟨gb161, 1, none⟩ = some (.bool true) ∧ w'.cell? ⟨gb161, 2, none⟩ = some (.string a3) ∧ w'.cell? ⟨gb161, 3, none⟩ = some (.string a4)) (ds := []) #[false, false, false, false, false, false, false, false, false, false, false] (by kernel_rfl) rfl rfl ⟨(bC_ BK161.out 0).trans rfl, (bC_ BK161.out 1).trans rfl, (bC_ BK161.out 2).trans rfl, (bC_ BK161.out 3).trans rfl⟩ (fun hHeld => ?_); refine with_tabW laws_FnVersionMade.tab11 laws_FnVersionMade.bits11 (fun HT_ HW_ => ?_)
            generalize wc.drew = w71 at HO_162000 BK161 HB hHeld ⊢
            refine pure_ (i := 1) (N := some 68) (v := ?_) (a' := ?_) #[false, true, false, false, false, false, false, false, false, false, false] rfl rfl (any_of HT_.out (by kernel_rfl)) (fun _ _ _ h => h) (Or.inl ⟨by rfl, ?_⟩) ?_ ?_
            rotate_left
            ·
             intro w'
             go_simp
             with_reducible rfl
            rotate_left
            ·
             simp only [Act.put, List.setIfInBounds_toArray, List.set_cons_zero, List.set_cons_succ, i64_w, i32_w]
             rfl
            refine take_ (i := 0) (N := some 67) (v := ?_) (a' := ?_) #[true, true, false, false, false, false, false, false, false, false, false] rfl rfl (take_ofW HT_.out HW_.out (by kernel_rfl)) (fun _ _ _ h => h) (Or.inl ⟨by rfl, ?_⟩) hHeld ?_ ?_
            rotate_left
            ·
             rintro w' ⟨s0, s1, s2, s3⟩
             go_simp
             with_reducible rfl
            rotate_left
            ·
             simp only [Act.put, List.setIfInBounds_toArray, List.set_cons_zero, List.set_cons_succ, i64_w, i32_w]
             rfl
            refine one_ (i := 2) (N := some 69) #[true, true, true, false, false, false, false, false, false, false, false] rfl rfl (one_of HT_.out (by kernel_rfl)) (by decide) (fun K hK => ?_)
            refine goes_ Tryd.func14 (by kernel_rfl) rfl #[.int .i64 2, .string x14_54] (by rfl) rfl rfl (by (try simp only [List.map_toArray, List.map_cons, List.map_nil]); first | done | rfl | (simp only [List.length_drop, List.length_take]; rfl)) ?_
            with_reducible refine (impl_VersionParse.calls 2 x14_54 t163 t164 t167 t168 t169 t170 t171 t172 _ A59.out (HGd.out.below (by repeat (first | (with_reducible first | exact HB.out | apply bB_ | apply wN_ | apply bE_ | refine bS_ ?_ GE161.out) | exact HB.out)))).mono ?_
            rintro e w72 ⟨v165, rfl, ho0, hb⟩
            refine ⟨_, rfl, ?_⟩
            have n0_ := aM_ (Kd.R_elder' (by (with_reducible repeat (first | apply kA_ | apply kN_ | apply kD_)); exact HO_162000.out) (Kd.R_base ho0) hb)
            have n1_ := aM_ (Kd.R_lower (Kd.R_new' ho0 (Kd.R_lt (by (with_reducible repeat (first | apply kA_ | apply kN_ | apply kD_)); exact HO_162000.out))) (below_size (by repeat (first | (with_reducible first | exact HB.out | apply bB_ | apply wN_ | apply bE_ | refine bS_ ?_ GE161.out) | exact HB.out))))
            have n2_ := aM_ (blk_below (g := gb161) (o := .cells #[.slice Ao49 y158.length co49, .bool true, .string a3, .string a4] 26 (0, 0)) (by (with_reducible repeat (first | refine bN_ ?_ _ | refine bD_ ?_ | refine bA_ ?_ _)); exact BK161.out) hb)
            have n3_ := aM_ (below_step (by repeat (first | (with_reducible first | exact HB.out | apply bB_ | apply wN_ | apply bE_ | refine bS_ ?_ GE161.out) | exact HB.out)) hb)
            clear HO_162000
            clear BK161
            clear HB
            have HO_162000 := n0_
            have HO166 := n1_
            have BK161 := n2_
            have HB := n3_
            clear n0_ n1_ n2_ n3_
            (try clear hb)
            (try clear hb2)
            (try clear hk)
            (try clear hi)
            (try clear ho0)
            obtain ⟨Ao73, co73, eo73⟩ := Kd.R_slice HO166.out
            (first | subst eo73 | (injection eo73 with f1_ f2_ f3_; have f4_ := f1_.symm; have f5_ := f3_.symm; clear f1_ f2_ f3_; subst f4_; subst f5_))
            refine hK.out _ _ ⟨(bC_ BK161.out 0).trans rfl, (bC_ BK161.out 1).trans rfl, (bC_ BK161.out 2).trans rfl, (bC_ BK161.out 3).trans rfl⟩ (fun hHeld => ?_)
            clear hK K
            refine norm_ (a' := ?_) ?_ ?_
            rotate_left
            ·
             show Act.put _ (some 69) _ = _
             simp only [Act.put, List.setIfInBounds_toArray, List.set_cons_zero, List.set_cons_succ, i64_w, i32_w]
             rfl
            refine one_ (i := 3) (N := some 70) #[true, true, true, true, false, false, false, false, false, false, false] rfl rfl (one_of HT_.out (by kernel_rfl)) (by decide) (fun K hK => ?_)
            refine goes_ Tryd.func9 (by kernel_rfl) rfl #[.agg #[.slice Ao49 y158.length co49, .bool true, .string a3, .string a4], .agg #[.bool t163, .slice Ao73 t164.length co73, .string t167, .string t168, .string t169, .int .u64 t170, .int .u64 t171, .int .u64 t172]] (by rfl) rfl rfl (by (try simp only [List.map_toArray, List.map_cons, List.map_nil]); first | done | rfl | (simp only [List.length_drop, List.length_take]; rfl)) ?_
            with_reducible refine (spec_SameVer.calls kj54 _ _ y158 true a3 a4 t163 _ _ t164 t167 t168 t169 t170 t171 t172 false _ ?side1 ?side2 ?side3 ?side4 A60.out).mono ?_
            (case side1 => repeat (first | exact (Kd.R_reads' HO_162000.out).2.2 | (with_reducible refine Kd.C_alloc ?_ _) | (with_reducible refine Kd.C_drewN ?_ _) | (with_reducible refine Kd.C_drew ?_)))
            (case side2 => exact (Kd.R_reads' HO_162000.out).2.1)
            (case side3 => repeat (first | exact (Kd.R_reads' HO166.out).2.2 | (with_reducible refine Kd.C_alloc ?_ _) | (with_reducible refine Kd.C_drewN ?_ _) | (with_reducible refine Kd.C_drew ?_)))
            (case side4 => exact (Kd.R_reads' HO166.out).2.1)
            rintro e w74 ⟨rfl, hb⟩
            refine ⟨_, rfl, ?_⟩
            have n0_ := aM_ (Kd.R_below (by (with_reducible repeat (first | apply kA_ | apply kN_ | apply kD_)); exact HO_162000.out) hb)
            have n1_ := aM_ (Kd.R_below (by (with_reducible repeat (first | apply kA_ | apply kN_ | apply kD_)); exact HO166.out) hb)
            have n2_ := aM_ (blk_below (g := gb161) (o := .cells #[.slice Ao49 y158.length co49, .bool true, .string a3, .string a4] 26 (0, 0)) (by (with_reducible repeat (first | refine bN_ ?_ _ | refine bD_ ?_ | refine bA_ ?_ _)); exact BK161.out) hb)
            have n3_ := aM_ (below_step (by repeat (first | (with_reducible first | exact HB.out | apply bB_ | apply wN_ | apply bE_ | refine bS_ ?_ GE161.out) | exact HB.out)) hb)
            clear HO_162000
            clear HO166
            clear BK161
            clear HB
            have HO_162000 := n0_
            have HO166 := n1_
            have BK161 := n2_
            have HB := n3_
            clear n0_ n1_ n2_ n3_
            (try clear hb)
            (try clear hb2)
            (try clear hk)
            (try clear hi)
            refine hK.out _ _ ⟨(bC_ BK161.out 0).trans rfl, (bC_ BK161.out 1).trans rfl, (bC_ BK161.out 2).trans rfl, (bC_ BK161.out 3).trans rfl⟩ (fun hHeld => ?_)
            clear hK K
            refine norm_ (a' := ?_) ?_ ?_
            rotate_left
            ·
             show Act.put _ (some 70) _ = _
             simp only [Act.put, List.setIfInBounds_toArray, List.set_cons_zero, List.set_cons_succ, i64_w, i32_w]
             rfl
            refine pure_ (i := 4) (N := some 71) (v := ?_) (a' := ?_) #[true, true, true, true, true, false, false, false, false, false, false] rfl rfl (any_of HT_.out (by kernel_rfl)) (fun _ _ _ h => h) (Or.inl ⟨by rfl, ?_⟩) ?_ ?_
            rotate_left
            ·
             intro w'
             go_simp
             with_reducible rfl
            rotate_left
            ·
             simp only [Act.put, List.setIfInBounds_toArray, List.set_cons_zero, List.set_cons_succ, i64_w, i32_w]
             rfl
            refine pure_ (i := 5) (N := some 72) (v := undef) (a' := ?_) #[true, true, true, true, true, true, false, false, false, false, false] rfl rfl (any_of HT_.out (by kernel_rfl)) (fun _ _ _ h => h) (Or.inr ⟨by rfl, rfl⟩) ?_ ?_
            rotate_left
            ·
             simp only [Act.put, List.setIfInBounds_toArray, List.set_cons_zero, List.set_cons_succ, i64_w, i32_w]
             rfl
            refine pure_ (i := 6) (N := some 73) (v := undef) (a' := ?_) #[true, true, true, true, true, true, true, false, false, false, false] rfl rfl (any_of HT_.out (by kernel_rfl)) (fun _ _ _ h => h) (Or.inr ⟨by rfl, rfl⟩) ?_ ?_
            rotate_left
            ·
             simp only [Act.put, List.setIfInBounds_toArray, List.set_cons_zero, List.set_cons_succ, i64_w, i32_w]
             rfl
            refine pure_ (i := 7) (N := some 74) (v := undef) (a' := ?_) #[true, true, true, true, true, true, true, true, false, false, false] rfl rfl (any_of HT_.out (by kernel_rfl)) (fun _ _ _ h => h) (Or.inr ⟨by rfl, rfl⟩) ?_ ?_
            rotate_left
            ·
             simp only [Act.put, List.setIfInBounds_toArray, List.set_cons_zero, List.set_cons_succ, i64_w, i32_w]
             rfl
            refine pure_ (i := 8) (N := some 75) (v := undef) (a' := ?_) #[true, true, true, true, true, true, true, true, true, false, false] rfl rfl (any_of HT_.out (by kernel_rfl)) (fun _ _ _ h => h) (Or.inr ⟨by rfl, rfl⟩) ?_ ?_
            rotate_left
            ·
             simp only [Act.put, List.setIfInBounds_toArray, List.set_cons_zero, List.set_cons_succ, i64_w, i32_w]
             rfl
            refine pure_ (i := 9) (N := some 76) (v := ?_) (a' := ?_) #[true, true, true, true, true, true, true, true, true, true, false] rfl rfl (any_of HT_.out (by kernel_rfl)) (fun _ _ _ h => h) (Or.inl ⟨by rfl, ?_⟩) ?_ ?_
            rotate_left
            ·
             intro w'
             go_simp
             with_reducible rfl
            rotate_left
            ·
             simp only [Act.put, List.setIfInBounds_toArray, List.set_cons_zero, List.set_cons_succ, i64_w, i32_w]
             rfl
            refine pure_ (i := 10) (N := some 12) (v := ?_) (a' := ?_) #[true, true, true, true, true, true, true, true, true, true, true] rfl rfl (any_of HT_.out (by kernel_rfl)) (fun _ _ _ h => h) (Or.inl ⟨by rfl, ?_⟩) ?_ ?_
            rotate_left
            ·
             intro w'
             go_simp
             with_reducible rfl
            rotate_left
            ·
             simp only [Act.put, List.setIfInBounds_toArray, List.set_cons_zero, List.set_cons_succ, i64_w, i32_w]
             rfl
            refine done_ (done_of HT_.out (by kernel_rfl)) ?_
            try go_wp2
            go_ret
            exact ⟨by first | rfl | (simp [errW_none, errW_some] <;> rfl) | (simp [*, errW_none, errW_some] <;> rfl) | (exfalso; contradiction), by repeat (first | (with_reducible first | exact HB.out | apply bB_ | apply wN_ | apply bE_ | refine bS_ ?_ GE161.out) | exact HB.out)⟩

/-- THE ONE PURE STATEMENT of laws_FnVersionMade: yours. -/
def laws_FnVersionMade.Pure : Prop := ∀ (a0 : Int) (a1 : Int) (a2 : Int) (a3 : ByteArray) (a4 : ByteArray) (a5 : Int), (Lit.int .u64 a0).wf = true → (Lit.int .u64 a1).wf = true → (Lit.int .u64 a2).wf = true → a3.size ≤ 140737488351232 → a4.size ≤ 140737488351232 → (Lit.int .u8 a5).wf = true → ∃ k, laws_FnVersionMade.f k a0 a1 a2 a3 a4 a5 = some true
theorem laws_FnVersionMade.walk (P : laws_FnVersionMade.Pure) (a0 : Int) (a1 : Int) (a2 : Int) (a3 : ByteArray) (a4 : ByteArray) (a5 : Int) (w : World) (w0 : (Lit.int .u64 a0).wf = true) (w1 : (Lit.int .u64 a1).wf = true) (w2 : (Lit.int .u64 a2).wf = true) (w3 : a3.size ≤ 140737488351232) (w4 : a4.size ≤ 140737488351232) (w5 : (Lit.int .u8 a5).wf = true) (hgood : Pv.Good w) :
  Calls Tryd.prog 4 #[.int .u64 a0, .int .u64 a1, .int .u64 a2, .string a3, .string a4, .int .u8 a5] w fun e w' => e = .returned (.bool true) ∧ Below w.heap.size w w' := by
 obtain ⟨k, h⟩ := P a0 a1 a2 a3 a4 a5 w0 w1 w2 w3 w4 w5
 refine (laws_FnVersionMade.calls k a0 a1 a2 a3 a4 a5 true w h hgood).mono ?_
 rintro e w' ⟨rfl, hd⟩
 exact ⟨rfl, hd⟩

end Go.Proofs.YtomoefldmgfaoaaDoor.PFnVersionMade
