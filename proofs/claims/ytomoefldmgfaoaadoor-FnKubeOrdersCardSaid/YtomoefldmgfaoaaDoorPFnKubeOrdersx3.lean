/- Functions of the program as plain Lean functions, and that the machine's calls do what these say: written for this claim by wip/myprint.py over the kit's print.py. -/
import Derived.Test.YtomoefldmgfaoaaDoorPFnKubeOrdersx0
import Derived.Test.YtomoefldmgfaoaaDoorPFnKubeOrdersx1
import Derived.Test.YtomoefldmgfaoaaDoorPFnKubeOrdersx2
namespace Go.Proofs.YtomoefldmgfaoaaDoor.PFnKubeOrders
open Go.RowKit Go.Proofs.YtomoefldmgfaoaaDoorW.PrintWords Go.Proofs.YtomoefldmgfaoaaDoorW.PrintLast Go.Proofs.YtomoefldmgfaoaaDoorW.PrintMore
attribute [local go_sem] max2_int min2_int max_two min_two max_three min_three max_four min_four   -- for this text's walks alone
set_option linter.unusedVariables false
set_option linter.unusedSimpArgs false

/-! ### spec_Sign: function 25 -/
def spec_Sign.f (a0 : Int) : Option (Int) := (spec_verSign.f a0).bind fun t125 => (some t125)
set_option maxHeartbeats 8000000 in
set_option maxRecDepth 100000 in
theorem spec_Sign.calls (a0 : Int) (r : Int) (w : World) (h : spec_Sign.f a0 = some r) :
  Calls Tryd.prog 25 #[.int .i64 a0] w fun e w' => e = .returned (.int .i64 r) ∧ Drawn0 w w' := by
 have H : ((spec_verSign.f a0).bind fun t125 => (some t125)) = some r := h
 clear h
 replace H := Option.bind_eq_some_iff.mp H
 obtain ⟨t125, A20, H⟩ := H
 replace H : (some t125) = some r := H
 have A2 := aM_ A20
 clear A20
 obtain rfl := Option.some.inj H
 go_enter Tryd.func25, Tryd.ntmps25
 go_wp2_with (first | ((with_reducible refine gate_callee (f := 55) rfl ?_); refine goesL_ (some 4) rfl rfl Tryd.func55 (by kernel_rfl) rfl #[.int .i64 a0] rfl (by (try simp only [List.map_toArray, List.map_cons, List.map_nil]); first | done | rfl | (simp only [List.length_drop, List.length_take]; rfl)) ?_; (with_reducible refine (spec_verSign.calls a0 t125 _ A2.out).mono ?_); rintro e w' ⟨rfl, ⟨nd, rfl⟩⟩; refine ⟨_, rfl, ?_⟩))
 go_ret
 exact ⟨by first | rfl | (simp; done) | (simp [*]; done), by repeat (first | exact Drawn0.refl _ | apply Drawn0.step)⟩

-- NOT PRINTED: function 100 (version_zzDigits_100)

-- NOT PRINTED: function 88 (version_zzKube)

-- NOT PRINTED: function 128 (strconv_lower)

-- NOT PRINTED: function 129 (strconv_underscoreOK)

-- NOT PRINTED: function 115 (strconv_ParseUint_115)

-- NOT PRINTED: function 117 (strconv_ParseInt)

-- NOT PRINTED: function 101 (strconv_Atoi_101)

-- NOT PRINTED: function 130 (stringslite_Clone)

-- NOT PRINTED: function 118 (strconv_syntaxError)

-- NOT PRINTED: function 119 (strconv_rangeError)

-- NOT PRINTED: function 72 (errors_New)

-- NOT PRINTED: function 107 (strconv_small)

-- NOT PRINTED: function 123 (strconv_log10Pow2)

-- NOT PRINTED: function 124 (bits_Len64)

-- NOT PRINTED: function 125 (strconv_bool2_int)

-- NOT PRINTED: function 108 (strconv_numDigits)

-- NOT PRINTED: function 109 (strconv_formatBase10)

-- NOT PRINTED: function 126 (strconv_isPowerOfTwo)

-- NOT PRINTED: function 132 (bits_TrailingZeros32)

-- NOT PRINTED: function 133 (bits_TrailingZeros64)

-- NOT PRINTED: function 127 (bits_TrailingZeros)

-- NOT PRINTED: function 110 (strconv_formatBits)

-- NOT PRINTED: function 135 (strconv_FormatInt)

-- NOT PRINTED: function 134 (strconv_Itoa_134)

-- NOT PRINTED: function 131 (strconv_Itoa_131)

-- NOT PRINTED: function 120 (strconv_baseError)

-- NOT PRINTED: function 121 (strconv_bitSizeError)

-- NOT PRINTED: function 102 (strconv_toError)

-- NOT PRINTED: function 89 (strconv_Atoi_89)

-- NOT PRINTED: function 78 (version_parseKubeVersion)

-- NOT PRINTED: function 103 (bytealg_abigen_runtime_cmpstring)

-- NOT PRINTED: function 90 (bytealg_CompareString)

-- NOT PRINTED: function 79 (strings_Compare)

-- NOT PRINTED: function 57 (version_CompareKubeAwareVersionStrings)

/-! ### impl_KubeCompare: function 26 -/
def impl_KubeCompare.f (a0 a1 : ByteArray) : Option Int := if (a0.size ≤ 1099511627776 ∧ a1.size ≤ 1099511627776) ∧ Pv.kaskB (Pv.Lb a0) = true ∧ Pv.kaskB (Pv.Lb a1) = true then some (Pv.kcmp (Pv.Lb a0) (Pv.Lb a1)) else none
theorem impl_KubeCompare.calls (a0 a1 : ByteArray) (r : Int) (w : World) (h : impl_KubeCompare.f a0 a1 = some r) :
  Calls Tryd.prog 26 #[.string a0, .string a1] w fun e w' => e = .returned (.int .i64 r) ∧ Below w.heap.size w w' := by
 unfold impl_KubeCompare.f at h
 by_cases hs : (a0.size ≤ 1099511627776 ∧ a1.size ≤ 1099511627776) ∧ Pv.kaskB (Pv.Lb a0) = true ∧ Pv.kaskB (Pv.Lb a1) = true
 ·
  rw [if_pos hs] at h
  obtain rfl := Option.some.inj h
  exact Pv.kc_calls a0 a1 hs.1.1 hs.1.2 (Pv.kask_of hs.2.1) (Pv.kask_of hs.2.2) w
 ·
  rw [if_neg hs] at h; cases h
-- NOT PRINTED: function 59 (version_Version_Components)

-- NOT PRINTED: function 60 (version_Version_PreRelease)

-- NOT PRINTED: function 61 (version_Version_BuildMetadata)

-- NOT PRINTED: function 91 (bytes_Buffer_tryGrowByReslice)

-- NOT PRINTED: function 104 (bytes_Buffer_Len)

-- NOT PRINTED: function 105 (bytes_Buffer_Reset)

-- NOT PRINTED: function 106 (bytes_growSlice)

-- NOT PRINTED: function 92 (bytes_Buffer_grow)

-- NOT PRINTED: function 83 (bytes_Buffer_WriteString)

-- NOT PRINTED: function 93 (strconv_FormatUint_93)

-- NOT PRINTED: function 84 (strconv_FormatUint_84)

-- NOT PRINTED: function 85 (bytes_Buffer_String)

-- NOT PRINTED: function 62 (version_Version_String)

-- NOT PRINTED: function 63 (version_Version_Major)

-- NOT PRINTED: function 64 (version_Version_Minor)

-- NOT PRINTED: function 65 (version_Version_Patch)

-- NOT PRINTED: function 29 (impl_ver)

-- NOT PRINTED: function 111 (version_zzBlanks)

-- NOT PRINTED: function 112 (version_zzDigits_112)

-- NOT PRINTED: function 94 (version_zzVersion)

-- NOT PRINTED: function 113 (version_zzIndex)

-- NOT PRINTED: function 95 (version_zzSplit)

-- NOT PRINTED: function 114 (stringslite_HasPrefix)

-- NOT PRINTED: function 96 (strings_HasPrefix)

-- NOT PRINTED: function 97 (strconv_ParseUint_97)

-- NOT PRINTED: function 116 (version_zzWords)

-- NOT PRINTED: function 98 (version_zzExtra)

-- NOT PRINTED: function 86 (version_parse)

-- NOT PRINTED: function 66 (version_ParseGeneric)

-- NOT PRINTED: function 67 (version_ParseSemantic)

-- NOT PRINTED: function 30 (version_MajorMinor)

-- NOT PRINTED: function 68 (version_ParseMajorMinor)

-- NOT PRINTED: function 69 (version_Parse)

-- NOT PRINTED: function 36 (impl_parsed)

-- NOT PRINTED: function 14 (impl_VersionParse)

-- NOT PRINTED: function 99 (version_onlyZeros)

-- NOT PRINTED: function 87 (version_Version_compareInternal)

-- NOT PRINTED: function 73 (version_Version_LessThan)

-- NOT PRINTED: function 80 (version_Version_AtLeast)

-- NOT PRINTED: function 81 (version_Version_GreaterThan)

-- NOT PRINTED: function 82 (version_Version_EqualTo)

-- NOT PRINTED: function 58 (impl_VersionOrder)

/-! ### laws_verAwake: function 27 -/
def laws_verAwake.f : Option Bool := some true
theorem laws_verAwake.calls (r : Bool) (w : World) (h : laws_verAwake.f = some r) (hg : Pv.Good w) :
  Calls Tryd.prog 27 #[] w fun e w' => e = .returned (.bool r) ∧ Below w.heap.size w w' := by
 obtain rfl := Option.some.inj h
 exact Pv.awake_calls w hg
/-! ### laws_FnKubeOrders: function 8 -/
mutual
def laws_FnKubeOrders.j0 : Nat → ByteArray → ByteArray → ByteArray → Bool → Option (Bool)
 | 0, _, _, _, _ => none
 | k + 1, x0, x1, x2, x27 => if x27 = true then (some true) else ((spec_KubeOrder.f k x0 x1).bind fun bt126 => ((spec_KubeOrder.f k x1 x2).bind fun bt128 => (if bt126.2 = true then (laws_FnKubeOrders.j1 k x0 x1 x2 (!bt128.2)) else (laws_FnKubeOrders.j1 k x0 x1 x2 true))))
def laws_FnKubeOrders.j1 : Nat → ByteArray → ByteArray → ByteArray → Bool → Option (Bool)
 | 0, _, _, _, _ => none
 | k + 1, x0, x1, x2, x45 => if x45 = true then (some true) else ((impl_KubeCompare.f x0 x1).bind fun t130 => ((spec_Sign.f t130).bind fun t131 => ((impl_KubeCompare.f x1 x0).bind fun t132 => ((spec_Sign.f t132).bind fun t133 => ((impl_KubeCompare.f x1 x2).bind fun t134 => ((spec_Sign.f t134).bind fun t135 => ((impl_KubeCompare.f x0 x2).bind fun t136 => ((spec_Sign.f t136).bind fun t137 => (if t131 = (wrap64 (-t133)) then (if x0.toList = x1.toList then (if t131 = 0 then (if t131 < 0 then ((laws_verAwake.f).bind fun t138 => (some t138)) else (if t135 < 0 then ((laws_verAwake.f).bind fun t139 => (some t139)) else (if t137 ≥ 0 then ((laws_verAwake.f).bind fun t140 => (some t140)) else (some false)))) else (some false)) else (if t131 < 0 then ((laws_verAwake.f).bind fun t141 => (some t141)) else (if t135 < 0 then ((laws_verAwake.f).bind fun t142 => (some t142)) else (if t137 ≥ 0 then ((laws_verAwake.f).bind fun t143 => (some t143)) else (some false))))) else (some false))))))))))
end
def laws_FnKubeOrders.f (k : Nat) (a0 : ByteArray) (a1 : ByteArray) (a2 : ByteArray) : Option (Bool) := if (a0.size : Int) > 2147483647 then (laws_FnKubeOrders.j0 k a0 a1 a2 true) else (if (a1.size : Int) > 2147483647 then (laws_FnKubeOrders.j0 k a0 a1 a2 true) else (laws_FnKubeOrders.j0 k a0 a1 a2 (decide ((a2.size : Int) > 2147483647))))
theorem laws_FnKubeOrders.mono_l : ∀ k, (∀ y0 y1 y2 y3, LeO (laws_FnKubeOrders.j0 k y0 y1 y2 y3) (laws_FnKubeOrders.j0 (k + 1) y0 y1 y2 y3)) ∧ (∀ y0 y1 y2 y3, LeO (laws_FnKubeOrders.j1 k y0 y1 y2 y3) (laws_FnKubeOrders.j1 (k + 1) y0 y1 y2 y3))
 | 0 => ⟨fun _ _ _ _ r h => by simp [laws_FnKubeOrders.j0] at h, fun _ _ _ _ r h => by simp [laws_FnKubeOrders.j1] at h⟩
 | k + 1 => by
  obtain ⟨ih0, ih1⟩ := laws_FnKubeOrders.mono_l k
  refine ⟨?_, ?_⟩
  ·
   intro y0 y1 y2 y3
   unfold laws_FnKubeOrders.j0
   repeat' first
   | (with_reducible exact ih0 _ _ _ _)
   | (with_reducible exact ih1 _ _ _ _)
   | (with_reducible exact spec_KubeOrder.mono _ _ _)
   | (with_reducible exact LeO.refl _)
   | (with_reducible exact LeO.none _)
   | (with_reducible refine LeO.ite ?_ ?_)
   | (with_reducible refine LeO.bind ?_ (fun _ => ?_))
   | exact ih0 _ _ _ _
   | exact ih1 _ _ _ _
   | exact spec_KubeOrder.mono _ _ _
   | exact LeO.none _
   | refine LeO.ite ?_ ?_
   | refine LeO.bind ?_ (fun _ => ?_)
  ·
   intro y0 y1 y2 y3
   unfold laws_FnKubeOrders.j1
   repeat' first
   | (with_reducible exact ih0 _ _ _ _)
   | (with_reducible exact ih1 _ _ _ _)
   | (with_reducible exact spec_KubeOrder.mono _ _ _)
   | (with_reducible exact LeO.refl _)
   | (with_reducible exact LeO.none _)
   | (with_reducible refine LeO.ite ?_ ?_)
   | (with_reducible refine LeO.bind ?_ (fun _ => ?_))
   | exact ih0 _ _ _ _
   | exact ih1 _ _ _ _
   | exact spec_KubeOrder.mono _ _ _
   | exact LeO.none _
   | refine LeO.ite ?_ ?_
   | refine LeO.bind ?_ (fun _ => ?_)
theorem laws_FnKubeOrders.mono : ∀ a0 a1 a2 k, LeO (laws_FnKubeOrders.f k a0 a1 a2) (laws_FnKubeOrders.f (k + 1) a0 a1 a2) := by
 intro a0 a1 a2 k
 obtain ⟨ih0, ih1⟩ := laws_FnKubeOrders.mono_l k
 unfold laws_FnKubeOrders.f
 repeat' first
   | (with_reducible exact ih0 _ _ _ _)
   | (with_reducible exact ih1 _ _ _ _)
   | (with_reducible exact spec_KubeOrder.mono _ _ _)
   | (with_reducible exact LeO.refl _)
   | (with_reducible exact LeO.none _)
   | (with_reducible refine LeO.ite ?_ ?_)
   | (with_reducible refine LeO.bind ?_ (fun _ => ?_))
   | exact ih0 _ _ _ _
   | exact ih1 _ _ _ _
   | exact spec_KubeOrder.mono _ _ _
   | exact LeO.none _
   | refine LeO.ite ?_ ?_
   | refine LeO.bind ?_ (fun _ => ?_)
set_option maxHeartbeats 8000000 in
set_option maxRecDepth 100000 in
theorem laws_FnKubeOrders.calls (k : Nat) (a0 : ByteArray) (a1 : ByteArray) (a2 : ByteArray) (r : Bool) (w : World) (h : laws_FnKubeOrders.f k a0 a1 a2 = some r) (hgood : Pv.Good w) :
  Calls Tryd.prog 8 #[.string a0, .string a1, .string a2] w fun e w' => e = .returned (.bool r) ∧ Below w.heap.size w w' := by
 have HGd := aM_ hgood
 clear hgood
 have HB := aM_ (Below.refl w.heap.size w)
 have H : (if (a0.size : Int) > 2147483647 then (laws_FnKubeOrders.j0 k a0 a1 a2 true) else (if (a1.size : Int) > 2147483647 then (laws_FnKubeOrders.j0 k a0 a1 a2 true) else (laws_FnKubeOrders.j0 k a0 a1 a2 (decide ((a2.size : Int) > 2147483647))))) = some r := h
 clear h
 have HC4 := aM_ H
 clear H
 go_enter Tryd.func8, Tryd.ntmps8
 go_upto_region 1 with (fail)
 go_cut [27] (fun v27 wc => ∃ (kq : Nat) (x27_3 : Bool), v27 = .bool x27_3 ∧ Aside0 (laws_FnKubeOrders.j0 kq a0 a1 a2 x27_3 = some r) ∧ Aside0 (kq ≤ k) ∧ Aside0 (Below w.heap.size w wc))
 case first =>
  have H := HC4.out
  clear HC4
  by_cases c5 : (a0.size : Int) > 2147483647
  ·
   rw [if_pos c5] at H
   have c5b0 : decide (2147483647 < (a0.size : Int)) = true := decide_eq_true c5
   have c5b1 : decide (2147483647 < a0.size) = true := decide_eq_true (by omega)
   clear c5
   (first | rw [c5b0] | (simp only [i64_w, i32_w]; rw [c5b0]) | skip)
   have H' := aM_ H
   clear H
   go_wp2
   go_meet
   case rel => exact ⟨_, (true), (by first | rfl | (simp; done) | (simp [*]; done)), H', ⟨by first | omega | exact Nat.le_refl _⟩, ⟨by repeat (first | (with_reducible first | exact HB.out | apply bB_ | apply wN_ | apply bE_) | exact HB.out)⟩⟩
  ·
   rw [if_neg c5] at H
   have c5b0 : decide (2147483647 < (a0.size : Int)) = false := decide_eq_false c5
   have c5b1 : decide (2147483647 < a0.size) = false := decide_eq_false (by omega)
   clear c5
   (first | rw [c5b0] | (simp only [i64_w, i32_w]; rw [c5b0]) | skip)
   by_cases c6 : (a1.size : Int) > 2147483647
   ·
    rw [if_pos c6] at H
    have c6b0 : decide (2147483647 < (a1.size : Int)) = true := decide_eq_true c6
    have c6b1 : decide (2147483647 < a1.size) = true := decide_eq_true (by omega)
    clear c6
    have H' := aM_ H
    clear H
    go_wp2
    go_meet
    case rel => exact ⟨_, (true), (by first | rfl | (simp; done) | (simp [*]; done)), H', ⟨by first | omega | exact Nat.le_refl _⟩, ⟨by repeat (first | (with_reducible first | exact HB.out | apply bB_ | apply wN_ | apply bE_) | exact HB.out)⟩⟩
   ·
    rw [if_neg c6] at H
    have c6b0 : decide (2147483647 < (a1.size : Int)) = false := decide_eq_false c6
    have c6b1 : decide (2147483647 < a1.size) = false := decide_eq_false (by omega)
    clear c6
    have H' := aM_ H
    clear H
    go_wp2
    go_meet
    case rel => exact ⟨_, (decide ((a2.size : Int) > 2147483647)), (by first | rfl | (simp; done) | (simp [*]; done)), H', ⟨by first | omega | exact Nat.le_refl _⟩, ⟨by repeat (first | (with_reducible first | exact HB.out | apply bB_ | apply wN_ | apply bE_) | exact HB.out)⟩⟩
 case rest =>
  clear HC4
  try clear p2
  try clear c5
  try clear c5b0
  try clear c5b1
  try clear c6
  try clear c6b0
  try clear c6b1
  obtain ⟨kq, x27_3, rfl, HA, HJ3, HB⟩ := hcut
  cases kq with
  | zero => exact absurd HA.out (by simp [laws_FnKubeOrders.j0])
  | succ kj3 =>
   have H := HA.out
   clear HA
   simp only [laws_FnKubeOrders.j0] at H
   by_cases c7 : x27_3 = true
   ·
    subst c7
    have H1 : (some true) = some r := by rw [if_pos rfl] at H; exact H
    clear H
    have H := H1
    clear H1
    obtain rfl := Option.some.inj H
    go_wp2
    go_ret
    exact ⟨by first | rfl | (simp [errW_none, errW_some] <;> rfl) | (simp [*, errW_none, errW_some] <;> rfl) | (exfalso; contradiction), by repeat (first | (with_reducible first | exact HB.out | apply bB_ | apply wN_ | apply bE_) | exact HB.out)⟩
   ·
    replace c7 := Bool.eq_false_iff.mpr c7
    subst c7
    have H1 : ((spec_KubeOrder.f kj3 a0 a1).bind fun bt126 => ((spec_KubeOrder.f kj3 a1 a2).bind fun bt128 => (if bt126.2 = true then (laws_FnKubeOrders.j1 kj3 a0 a1 a2 (!bt128.2)) else (laws_FnKubeOrders.j1 kj3 a0 a1 a2 true)))) = some r := by rw [if_neg (show ¬ (false = true) by decide)] at H; exact H
    clear H
    have H := H1
    clear H1
    replace H := Option.bind_eq_some_iff.mp H
    obtain ⟨⟨t126, t127⟩, A80, H⟩ := H
    replace H : ((spec_KubeOrder.f kj3 a1 a2).bind fun bt128 => (if t127 = true then (laws_FnKubeOrders.j1 kj3 a0 a1 a2 (!bt128.2)) else (laws_FnKubeOrders.j1 kj3 a0 a1 a2 true))) = some r := H
    have A8 := aM_ A80
    clear A80
    replace H := Option.bind_eq_some_iff.mp H
    obtain ⟨⟨t128, t129⟩, A90, H⟩ := H
    replace H : (if t127 = true then (laws_FnKubeOrders.j1 kj3 a0 a1 a2 (!t129)) else (laws_FnKubeOrders.j1 kj3 a0 a1 a2 true)) = some r := H
    have A9 := aM_ A90
    clear A90
    have HC10 := aM_ H
    clear H
    go_upto_region 5 with (first | ((with_reducible refine gate_callee (f := 24) rfl ?_); refine goesL_ (some 31) rfl rfl Tryd.func24 (by kernel_rfl) rfl #[.string a0, .string a1] rfl (by (try simp only [List.map_toArray, List.map_cons, List.map_nil]); first | done | rfl | (simp only [List.length_drop, List.length_take]; rfl)) ?_; (with_reducible refine (spec_KubeOrder.calls kj3 a0 a1 t126 t127 _ A8.out).mono ?_); rintro e w' ⟨rfl, ⟨nd, rfl⟩⟩; refine ⟨_, rfl, ?_⟩) | ((with_reducible refine gate_callee (f := 24) rfl ?_); refine goesL_ (some 37) rfl rfl Tryd.func24 (by kernel_rfl) rfl #[.string a1, .string a2] rfl (by (try simp only [List.map_toArray, List.map_cons, List.map_nil]); first | done | rfl | (simp only [List.length_drop, List.length_take]; rfl)) ?_; (with_reducible refine (spec_KubeOrder.calls kj3 a1 a2 t128 t129 _ A9.out).mono ?_); rintro e w' ⟨rfl, ⟨nd, rfl⟩⟩; refine ⟨_, rfl, ?_⟩))
    (try simp only [Act.put, List.setIfInBounds_toArray, List.set_cons_zero, List.set_cons_succ])
    go_cut [45] (fun v45 wc => ∃ (kq : Nat) (x45_9 : Bool), v45 = .bool x45_9 ∧ Aside0 (laws_FnKubeOrders.j1 kq a0 a1 a2 x45_9 = some r) ∧ Aside0 (kq ≤ kj3) ∧ Aside0 (Below w.heap.size w wc))
    case first =>
     have H := HC10.out
     clear HC10
     by_cases c11 : t127 = true
     ·
      subst c11
      have H1 : (laws_FnKubeOrders.j1 kj3 a0 a1 a2 (!t129)) = some r := by rw [if_pos rfl] at H; exact H
      clear H
      have H := H1
      clear H1
      have H' := aM_ H
      clear H
      go_wp2
      go_meet
      case rel => exact ⟨_, (!t129), (by first | rfl | (simp; done) | (simp [*]; done)), H', ⟨by have := HJ3.out; first | omega | exact Nat.le_refl _⟩, ⟨by repeat (first | (with_reducible first | exact HB.out | apply bB_ | apply wN_ | apply bE_) | exact HB.out)⟩⟩
     ·
      replace c11 := Bool.eq_false_iff.mpr c11
      subst c11
      have H1 : (laws_FnKubeOrders.j1 kj3 a0 a1 a2 true) = some r := by rw [if_neg (show ¬ (false = true) by decide)] at H; exact H
      clear H
      have H := H1
      clear H1
      have H' := aM_ H
      clear H
      go_wp2
      go_meet
      case rel => exact ⟨_, (true), (by first | rfl | (simp; done) | (simp [*]; done)), H', ⟨by have := HJ3.out; first | omega | exact Nat.le_refl _⟩, ⟨by repeat (first | (with_reducible first | exact HB.out | apply bB_ | apply wN_ | apply bE_) | exact HB.out)⟩⟩
    case rest =>
     clear HC10
     try clear c1
     try clear c2
     try clear p2
     try clear c5
     try clear c5b0
     try clear c5b1
     try clear c6
     try clear c6b0
     try clear c6b1
     try clear c7
     try clear c8
     try clear c11
     try clear p2
     obtain ⟨kq, x45_9, rfl, HA, HJ9, HB⟩ := hcut
     cases kq with
     | zero => exact absurd HA.out (by simp [laws_FnKubeOrders.j1])
     | succ kj9 =>
      have H := HA.out
      clear HA
      simp only [laws_FnKubeOrders.j1] at H
      by_cases c12 : x45_9 = true
      ·
       subst c12
       have H1 : (some true) = some r := by rw [if_pos rfl] at H; exact H
       clear H
       have H := H1
       clear H1
       obtain rfl := Option.some.inj H
       go_wp2
       go_ret
       exact ⟨by first | rfl | (simp [errW_none, errW_some] <;> rfl) | (simp [*, errW_none, errW_some] <;> rfl) | (exfalso; contradiction), by repeat (first | (with_reducible first | exact HB.out | apply bB_ | apply wN_ | apply bE_) | exact HB.out)⟩
      ·
       replace c12 := Bool.eq_false_iff.mpr c12
       subst c12
       have H1 : ((impl_KubeCompare.f a0 a1).bind fun t130 => ((spec_Sign.f t130).bind fun t131 => ((impl_KubeCompare.f a1 a0).bind fun t132 => ((spec_Sign.f t132).bind fun t133 => ((impl_KubeCompare.f a1 a2).bind fun t134 => ((spec_Sign.f t134).bind fun t135 => ((impl_KubeCompare.f a0 a2).bind fun t136 => ((spec_Sign.f t136).bind fun t137 => (if t131 = (wrap64 (-t133)) then (if a0.toList = a1.toList then (if t131 = 0 then (if t131 < 0 then ((laws_verAwake.f).bind fun t138 => (some t138)) else (if t135 < 0 then ((laws_verAwake.f).bind fun t139 => (some t139)) else (if t137 ≥ 0 then ((laws_verAwake.f).bind fun t140 => (some t140)) else (some false)))) else (some false)) else (if t131 < 0 then ((laws_verAwake.f).bind fun t141 => (some t141)) else (if t135 < 0 then ((laws_verAwake.f).bind fun t142 => (some t142)) else (if t137 ≥ 0 then ((laws_verAwake.f).bind fun t143 => (some t143)) else (some false))))) else (some false)))))))))) = some r := by rw [if_neg (show ¬ (false = true) by decide)] at H; exact H
       clear H
       have H := H1
       clear H1
       replace H := Option.bind_eq_some_iff.mp H
       obtain ⟨t130, A130, H⟩ := H
       replace H : ((spec_Sign.f t130).bind fun t131 => ((impl_KubeCompare.f a1 a0).bind fun t132 => ((spec_Sign.f t132).bind fun t133 => ((impl_KubeCompare.f a1 a2).bind fun t134 => ((spec_Sign.f t134).bind fun t135 => ((impl_KubeCompare.f a0 a2).bind fun t136 => ((spec_Sign.f t136).bind fun t137 => (if t131 = (wrap64 (-t133)) then (if a0.toList = a1.toList then (if t131 = 0 then (if t131 < 0 then ((laws_verAwake.f).bind fun t138 => (some t138)) else (if t135 < 0 then ((laws_verAwake.f).bind fun t139 => (some t139)) else (if t137 ≥ 0 then ((laws_verAwake.f).bind fun t140 => (some t140)) else (some false)))) else (some false)) else (if t131 < 0 then ((laws_verAwake.f).bind fun t141 => (some t141)) else (if t135 < 0 then ((laws_verAwake.f).bind fun t142 => (some t142)) else (if t137 ≥ 0 then ((laws_verAwake.f).bind fun t143 => (some t143)) else (some false))))) else (some false))))))))) = some r := H
       have A13 := aM_ A130
       clear A130
       replace H := Option.bind_eq_some_iff.mp H
       obtain ⟨t131, A140, H⟩ := H
       replace H : ((impl_KubeCompare.f a1 a0).bind fun t132 => ((spec_Sign.f t132).bind fun t133 => ((impl_KubeCompare.f a1 a2).bind fun t134 => ((spec_Sign.f t134).bind fun t135 => ((impl_KubeCompare.f a0 a2).bind fun t136 => ((spec_Sign.f t136).bind fun t137 => (if t131 = (wrap64 (-t133)) then (if a0.toList = a1.toList then (if t131 = 0 then (if t131 < 0 then ((laws_verAwake.f).bind fun t138 => (some t138)) else (if t135 < 0 then ((laws_verAwake.f).bind fun t139 => (some t139)) else (if t137 ≥ 0 then ((laws_verAwake.f).bind fun t140 => (some t140)) else (some false)))) else (some false)) else (if t131 < 0 then ((laws_verAwake.f).bind fun t141 => (some t141)) else (if t135 < 0 then ((laws_verAwake.f).bind fun t142 => (some t142)) else (if t137 ≥ 0 then ((laws_verAwake.f).bind fun t143 => (some t143)) else (some false))))) else (some false)))))))) = some r := H
       have A14 := aM_ A140
       clear A140
       replace H := Option.bind_eq_some_iff.mp H
       obtain ⟨t132, A150, H⟩ := H
       replace H : ((spec_Sign.f t132).bind fun t133 => ((impl_KubeCompare.f a1 a2).bind fun t134 => ((spec_Sign.f t134).bind fun t135 => ((impl_KubeCompare.f a0 a2).bind fun t136 => ((spec_Sign.f t136).bind fun t137 => (if t131 = (wrap64 (-t133)) then (if a0.toList = a1.toList then (if t131 = 0 then (if t131 < 0 then ((laws_verAwake.f).bind fun t138 => (some t138)) else (if t135 < 0 then ((laws_verAwake.f).bind fun t139 => (some t139)) else (if t137 ≥ 0 then ((laws_verAwake.f).bind fun t140 => (some t140)) else (some false)))) else (some false)) else (if t131 < 0 then ((laws_verAwake.f).bind fun t141 => (some t141)) else (if t135 < 0 then ((laws_verAwake.f).bind fun t142 => (some t142)) else (if t137 ≥ 0 then ((laws_verAwake.f).bind fun t143 => (some t143)) else (some false))))) else (some false))))))) = some r := H
       have A15 := aM_ A150
       clear A150
       replace H := Option.bind_eq_some_iff.mp H
       obtain ⟨t133, A160, H⟩ := H
       replace H : ((impl_KubeCompare.f a1 a2).bind fun t134 => ((spec_Sign.f t134).bind fun t135 => ((impl_KubeCompare.f a0 a2).bind fun t136 => ((spec_Sign.f t136).bind fun t137 => (if t131 = (wrap64 (-t133)) then (if a0.toList = a1.toList then (if t131 = 0 then (if t131 < 0 then ((laws_verAwake.f).bind fun t138 => (some t138)) else (if t135 < 0 then ((laws_verAwake.f).bind fun t139 => (some t139)) else (if t137 ≥ 0 then ((laws_verAwake.f).bind fun t140 => (some t140)) else (some false)))) else (some false)) else (if t131 < 0 then ((laws_verAwake.f).bind fun t141 => (some t141)) else (if t135 < 0 then ((laws_verAwake.f).bind fun t142 => (some t142)) else (if t137 ≥ 0 then ((laws_verAwake.f).bind fun t143 => (some t143)) else (some false))))) else (some false)))))) = some r := H
       have A16 := aM_ A160
       clear A160
       replace H := Option.bind_eq_some_iff.mp H
       obtain ⟨t134, A170, H⟩ := H
       replace H : ((spec_Sign.f t134).bind fun t135 => ((impl_KubeCompare.f a0 a2).bind fun t136 => ((spec_Sign.f t136).bind fun t137 => (if t131 = (wrap64 (-t133)) then (if a0.toList = a1.toList then (if t131 = 0 then (if t131 < 0 then ((laws_verAwake.f).bind fun t138 => (some t138)) else (if t135 < 0 then ((laws_verAwake.f).bind fun t139 => (some t139)) else (if t137 ≥ 0 then ((laws_verAwake.f).bind fun t140 => (some t140)) else (some false)))) else (some false)) else (if t131 < 0 then ((laws_verAwake.f).bind fun t141 => (some t141)) else (if t135 < 0 then ((laws_verAwake.f).bind fun t142 => (some t142)) else (if t137 ≥ 0 then ((laws_verAwake.f).bind fun t143 => (some t143)) else (some false))))) else (some false))))) = some r := H
       have A17 := aM_ A170
       clear A170
       replace H := Option.bind_eq_some_iff.mp H
       obtain ⟨t135, A180, H⟩ := H
       replace H : ((impl_KubeCompare.f a0 a2).bind fun t136 => ((spec_Sign.f t136).bind fun t137 => (if t131 = (wrap64 (-t133)) then (if a0.toList = a1.toList then (if t131 = 0 then (if t131 < 0 then ((laws_verAwake.f).bind fun t138 => (some t138)) else (if t135 < 0 then ((laws_verAwake.f).bind fun t139 => (some t139)) else (if t137 ≥ 0 then ((laws_verAwake.f).bind fun t140 => (some t140)) else (some false)))) else (some false)) else (if t131 < 0 then ((laws_verAwake.f).bind fun t141 => (some t141)) else (if t135 < 0 then ((laws_verAwake.f).bind fun t142 => (some t142)) else (if t137 ≥ 0 then ((laws_verAwake.f).bind fun t143 => (some t143)) else (some false))))) else (some false)))) = some r := H
       have A18 := aM_ A180
       clear A180
       replace H := Option.bind_eq_some_iff.mp H
       obtain ⟨t136, A190, H⟩ := H
       replace H : ((spec_Sign.f t136).bind fun t137 => (if t131 = (wrap64 (-t133)) then (if a0.toList = a1.toList then (if t131 = 0 then (if t131 < 0 then ((laws_verAwake.f).bind fun t138 => (some t138)) else (if t135 < 0 then ((laws_verAwake.f).bind fun t139 => (some t139)) else (if t137 ≥ 0 then ((laws_verAwake.f).bind fun t140 => (some t140)) else (some false)))) else (some false)) else (if t131 < 0 then ((laws_verAwake.f).bind fun t141 => (some t141)) else (if t135 < 0 then ((laws_verAwake.f).bind fun t142 => (some t142)) else (if t137 ≥ 0 then ((laws_verAwake.f).bind fun t143 => (some t143)) else (some false))))) else (some false))) = some r := H
       have A19 := aM_ A190
       clear A190
       replace H := Option.bind_eq_some_iff.mp H
       obtain ⟨t137, A200, H⟩ := H
       replace H : (if t131 = (wrap64 (-t133)) then (if a0.toList = a1.toList then (if t131 = 0 then (if t131 < 0 then ((laws_verAwake.f).bind fun t138 => (some t138)) else (if t135 < 0 then ((laws_verAwake.f).bind fun t139 => (some t139)) else (if t137 ≥ 0 then ((laws_verAwake.f).bind fun t140 => (some t140)) else (some false)))) else (some false)) else (if t131 < 0 then ((laws_verAwake.f).bind fun t141 => (some t141)) else (if t135 < 0 then ((laws_verAwake.f).bind fun t142 => (some t142)) else (if t137 ≥ 0 then ((laws_verAwake.f).bind fun t143 => (some t143)) else (some false))))) else (some false)) = some r := H
       have A20 := aM_ A200
       clear A200
       by_cases c21 : t131 = (wrap64 (-t133))
       ·
        rw [if_pos c21] at H
        have c21b0 : (t131 == (wrap64 (-t133))) = true := beq_iff_eq.mpr c21
        have c21b1 : (t131 != (wrap64 (-t133))) = false := bne_eq_false_iff_eq.mpr c21
        clear c21
        by_cases c22 : a0.toList = a1.toList
        ·
         rw [if_pos c22] at H
         have c22b0 : (a0.toList == a1.toList) = true := beq_iff_eq.mpr c22
         have c22b1 : (a0.toList != a1.toList) = false := bne_eq_false_iff_eq.mpr c22
         clear c22
         by_cases c23 : t131 = 0
         ·
          rw [if_pos c23] at H
          have c23b0 : (t131 == 0) = true := beq_iff_eq.mpr c23
          have c23b1 : (t131 != 0) = false := bne_eq_false_iff_eq.mpr c23
          clear c23
          by_cases c24 : t131 < 0
          ·
           rw [if_pos c24] at H
           have c24b0 : decide (t131 < 0) = true := decide_eq_true c24
           clear c24
           replace H := Option.bind_eq_some_iff.mp H
           obtain ⟨t138, A250, H⟩ := H
           replace H : (some t138) = some r := H
           have A25 := aM_ A250
           clear A250
           obtain rfl := Option.some.inj H
           go_wp2_with (first | ((with_reducible refine gate_callee (f := 26) rfl ?_); refine goesL_ (some 48) rfl rfl Tryd.func26 (by kernel_rfl) rfl #[.string a0, .string a1] rfl (by (try simp only [List.map_toArray, List.map_cons, List.map_nil]); first | done | rfl | (simp only [List.length_drop, List.length_take]; rfl)) ?_; (with_reducible refine (impl_KubeCompare.calls a0 a1 t130 _ A13.out).mono ?_); rintro e w26 ⟨rfl, hb⟩; refine ⟨_, rfl, ?_⟩; have n0_ := aM_ (below_step (by repeat (first | (with_reducible first | exact HB.out | apply bB_ | apply wN_ | apply bE_) | exact HB.out)) hb); clear HB; have HB := n0_; clear n0_; (try clear hb); (try clear hb2); (try clear hk); (try clear hi)) | ((with_reducible refine gate_callee (f := 25) rfl ?_); refine goesL_ (some 49) rfl rfl Tryd.func25 (by kernel_rfl) rfl #[.int .i64 t130] rfl (by (try simp only [List.map_toArray, List.map_cons, List.map_nil]); first | done | rfl | (simp only [List.length_drop, List.length_take]; rfl)) ?_; (with_reducible refine (spec_Sign.calls t130 t131 _ A14.out).mono ?_); rintro e w' ⟨rfl, ⟨nd, rfl⟩⟩; refine ⟨_, rfl, ?_⟩) | ((with_reducible refine gate_callee (f := 26) rfl ?_); refine goesL_ (some 52) rfl rfl Tryd.func26 (by kernel_rfl) rfl #[.string a1, .string a0] rfl (by (try simp only [List.map_toArray, List.map_cons, List.map_nil]); first | done | rfl | (simp only [List.length_drop, List.length_take]; rfl)) ?_; (with_reducible refine (impl_KubeCompare.calls a1 a0 t132 _ A15.out).mono ?_); rintro e w27 ⟨rfl, hb⟩; refine ⟨_, rfl, ?_⟩; have n0_ := aM_ (below_step (by repeat (first | (with_reducible first | exact HB.out | apply bB_ | apply wN_ | apply bE_) | exact HB.out)) hb); clear HB; have HB := n0_; clear n0_; (try clear hb); (try clear hb2); (try clear hk); (try clear hi)) | ((with_reducible refine gate_callee (f := 25) rfl ?_); refine goesL_ (some 53) rfl rfl Tryd.func25 (by kernel_rfl) rfl #[.int .i64 t132] rfl (by (try simp only [List.map_toArray, List.map_cons, List.map_nil]); first | done | rfl | (simp only [List.length_drop, List.length_take]; rfl)) ?_; (with_reducible refine (spec_Sign.calls t132 t133 _ A16.out).mono ?_); rintro e w' ⟨rfl, ⟨nd, rfl⟩⟩; refine ⟨_, rfl, ?_⟩) | ((with_reducible refine gate_callee (f := 26) rfl ?_); refine goesL_ (some 56) rfl rfl Tryd.func26 (by kernel_rfl) rfl #[.string a1, .string a2] rfl (by (try simp only [List.map_toArray, List.map_cons, List.map_nil]); first | done | rfl | (simp only [List.length_drop, List.length_take]; rfl)) ?_; (with_reducible refine (impl_KubeCompare.calls a1 a2 t134 _ A17.out).mono ?_); rintro e w28 ⟨rfl, hb⟩; refine ⟨_, rfl, ?_⟩; have n0_ := aM_ (below_step (by repeat (first | (with_reducible first | exact HB.out | apply bB_ | apply wN_ | apply bE_) | exact HB.out)) hb); clear HB; have HB := n0_; clear n0_; (try clear hb); (try clear hb2); (try clear hk); (try clear hi)) | ((with_reducible refine gate_callee (f := 25) rfl ?_); refine goesL_ (some 57) rfl rfl Tryd.func25 (by kernel_rfl) rfl #[.int .i64 t134] rfl (by (try simp only [List.map_toArray, List.map_cons, List.map_nil]); first | done | rfl | (simp only [List.length_drop, List.length_take]; rfl)) ?_; (with_reducible refine (spec_Sign.calls t134 t135 _ A18.out).mono ?_); rintro e w' ⟨rfl, ⟨nd, rfl⟩⟩; refine ⟨_, rfl, ?_⟩) | ((with_reducible refine gate_callee (f := 26) rfl ?_); refine goesL_ (some 60) rfl rfl Tryd.func26 (by kernel_rfl) rfl #[.string a0, .string a2] rfl (by (try simp only [List.map_toArray, List.map_cons, List.map_nil]); first | done | rfl | (simp only [List.length_drop, List.length_take]; rfl)) ?_; (with_reducible refine (impl_KubeCompare.calls a0 a2 t136 _ A19.out).mono ?_); rintro e w29 ⟨rfl, hb⟩; refine ⟨_, rfl, ?_⟩; have n0_ := aM_ (below_step (by repeat (first | (with_reducible first | exact HB.out | apply bB_ | apply wN_ | apply bE_) | exact HB.out)) hb); clear HB; have HB := n0_; clear n0_; (try clear hb); (try clear hb2); (try clear hk); (try clear hi)) | ((with_reducible refine gate_callee (f := 25) rfl ?_); refine goesL_ (some 61) rfl rfl Tryd.func25 (by kernel_rfl) rfl #[.int .i64 t136] rfl (by (try simp only [List.map_toArray, List.map_cons, List.map_nil]); first | done | rfl | (simp only [List.length_drop, List.length_take]; rfl)) ?_; (with_reducible refine (spec_Sign.calls t136 t137 _ A20.out).mono ?_); rintro e w' ⟨rfl, ⟨nd, rfl⟩⟩; refine ⟨_, rfl, ?_⟩) | (go_at_call 27; (with_reducible refine (laws_verAwake.calls  t138 _ A25.out (HGd.out.below (by repeat (first | (with_reducible first | exact HB.out | apply bB_ | apply wN_ | apply bE_) | exact HB.out)))).mono ?_); rintro e w30 ⟨rfl, hb⟩; have n0_ := aM_ (below_step (by repeat (first | (with_reducible first | exact HB.out | apply bB_ | apply wN_ | apply bE_) | exact HB.out)) hb); clear HB; have HB := n0_; clear n0_; (try clear hb); (try clear hb2); (try clear hk); (try clear hi)))
           go_ret
           exact ⟨by first | rfl | (simp [errW_none, errW_some] <;> rfl) | (simp [*, errW_none, errW_some] <;> rfl) | (exfalso; contradiction), by repeat (first | (with_reducible first | exact HB.out | apply bB_ | apply wN_ | apply bE_) | exact HB.out)⟩
          ·
           rw [if_neg c24] at H
           have c24b0 : decide (t131 < 0) = false := decide_eq_false c24
           clear c24
           by_cases c31 : t135 < 0
           ·
            rw [if_pos c31] at H
            have c31b0 : decide (t135 < 0) = true := decide_eq_true c31
            clear c31
            replace H := Option.bind_eq_some_iff.mp H
            obtain ⟨t139, A320, H⟩ := H
            replace H : (some t139) = some r := H
            have A32 := aM_ A320
            clear A320
            obtain rfl := Option.some.inj H
            go_wp2_with (first | ((with_reducible refine gate_callee (f := 26) rfl ?_); refine goesL_ (some 48) rfl rfl Tryd.func26 (by kernel_rfl) rfl #[.string a0, .string a1] rfl (by (try simp only [List.map_toArray, List.map_cons, List.map_nil]); first | done | rfl | (simp only [List.length_drop, List.length_take]; rfl)) ?_; (with_reducible refine (impl_KubeCompare.calls a0 a1 t130 _ A13.out).mono ?_); rintro e w33 ⟨rfl, hb⟩; refine ⟨_, rfl, ?_⟩; have n0_ := aM_ (below_step (by repeat (first | (with_reducible first | exact HB.out | apply bB_ | apply wN_ | apply bE_) | exact HB.out)) hb); clear HB; have HB := n0_; clear n0_; (try clear hb); (try clear hb2); (try clear hk); (try clear hi)) | ((with_reducible refine gate_callee (f := 25) rfl ?_); refine goesL_ (some 49) rfl rfl Tryd.func25 (by kernel_rfl) rfl #[.int .i64 t130] rfl (by (try simp only [List.map_toArray, List.map_cons, List.map_nil]); first | done | rfl | (simp only [List.length_drop, List.length_take]; rfl)) ?_; (with_reducible refine (spec_Sign.calls t130 t131 _ A14.out).mono ?_); rintro e w' ⟨rfl, ⟨nd, rfl⟩⟩; refine ⟨_, rfl, ?_⟩) | ((with_reducible refine gate_callee (f := 26) rfl ?_); refine goesL_ (some 52) rfl rfl Tryd.func26 (by kernel_rfl) rfl #[.string a1, .string a0] rfl (by (try simp only [List.map_toArray, List.map_cons, List.map_nil]); first | done | rfl | (simp only [List.length_drop, List.length_take]; rfl)) ?_; (with_reducible refine (impl_KubeCompare.calls a1 a0 t132 _ A15.out).mono ?_); rintro e w34 ⟨rfl, hb⟩; refine ⟨_, rfl, ?_⟩; have n0_ := aM_ (below_step (by repeat (first | (with_reducible first | exact HB.out | apply bB_ | apply wN_ | apply bE_) | exact HB.out)) hb); clear HB; have HB := n0_; clear n0_; (try clear hb); (try clear hb2); (try clear hk); (try clear hi)) | ((with_reducible refine gate_callee (f := 25) rfl ?_); refine goesL_ (some 53) rfl rfl Tryd.func25 (by kernel_rfl) rfl #[.int .i64 t132] rfl (by (try simp only [List.map_toArray, List.map_cons, List.map_nil]); first | done | rfl | (simp only [List.length_drop, List.length_take]; rfl)) ?_; (with_reducible refine (spec_Sign.calls t132 t133 _ A16.out).mono ?_); rintro e w' ⟨rfl, ⟨nd, rfl⟩⟩; refine ⟨_, rfl, ?_⟩) | ((with_reducible refine gate_callee (f := 26) rfl ?_); refine goesL_ (some 56) rfl rfl Tryd.func26 (by kernel_rfl) rfl #[.string a1, .string a2] rfl (by (try simp only [List.map_toArray, List.map_cons, List.map_nil]); first | done | rfl | (simp only [List.length_drop, List.length_take]; rfl)) ?_; (with_reducible refine (impl_KubeCompare.calls a1 a2 t134 _ A17.out).mono ?_); rintro e w35 ⟨rfl, hb⟩; refine ⟨_, rfl, ?_⟩; have n0_ := aM_ (below_step (by repeat (first | (with_reducible first | exact HB.out | apply bB_ | apply wN_ | apply bE_) | exact HB.out)) hb); clear HB; have HB := n0_; clear n0_; (try clear hb); (try clear hb2); (try clear hk); (try clear hi)) | ((with_reducible refine gate_callee (f := 25) rfl ?_); refine goesL_ (some 57) rfl rfl Tryd.func25 (by kernel_rfl) rfl #[.int .i64 t134] rfl (by (try simp only [List.map_toArray, List.map_cons, List.map_nil]); first | done | rfl | (simp only [List.length_drop, List.length_take]; rfl)) ?_; (with_reducible refine (spec_Sign.calls t134 t135 _ A18.out).mono ?_); rintro e w' ⟨rfl, ⟨nd, rfl⟩⟩; refine ⟨_, rfl, ?_⟩) | ((with_reducible refine gate_callee (f := 26) rfl ?_); refine goesL_ (some 60) rfl rfl Tryd.func26 (by kernel_rfl) rfl #[.string a0, .string a2] rfl (by (try simp only [List.map_toArray, List.map_cons, List.map_nil]); first | done | rfl | (simp only [List.length_drop, List.length_take]; rfl)) ?_; (with_reducible refine (impl_KubeCompare.calls a0 a2 t136 _ A19.out).mono ?_); rintro e w36 ⟨rfl, hb⟩; refine ⟨_, rfl, ?_⟩; have n0_ := aM_ (below_step (by repeat (first | (with_reducible first | exact HB.out | apply bB_ | apply wN_ | apply bE_) | exact HB.out)) hb); clear HB; have HB := n0_; clear n0_; (try clear hb); (try clear hb2); (try clear hk); (try clear hi)) | ((with_reducible refine gate_callee (f := 25) rfl ?_); refine goesL_ (some 61) rfl rfl Tryd.func25 (by kernel_rfl) rfl #[.int .i64 t136] rfl (by (try simp only [List.map_toArray, List.map_cons, List.map_nil]); first | done | rfl | (simp only [List.length_drop, List.length_take]; rfl)) ?_; (with_reducible refine (spec_Sign.calls t136 t137 _ A20.out).mono ?_); rintro e w' ⟨rfl, ⟨nd, rfl⟩⟩; refine ⟨_, rfl, ?_⟩) | (go_at_call 27; (with_reducible refine (laws_verAwake.calls  t139 _ A32.out (HGd.out.below (by repeat (first | (with_reducible first | exact HB.out | apply bB_ | apply wN_ | apply bE_) | exact HB.out)))).mono ?_); rintro e w37 ⟨rfl, hb⟩; have n0_ := aM_ (below_step (by repeat (first | (with_reducible first | exact HB.out | apply bB_ | apply wN_ | apply bE_) | exact HB.out)) hb); clear HB; have HB := n0_; clear n0_; (try clear hb); (try clear hb2); (try clear hk); (try clear hi)))
            go_ret
            exact ⟨by first | rfl | (simp [errW_none, errW_some] <;> rfl) | (simp [*, errW_none, errW_some] <;> rfl) | (exfalso; contradiction), by repeat (first | (with_reducible first | exact HB.out | apply bB_ | apply wN_ | apply bE_) | exact HB.out)⟩
           ·
            rw [if_neg c31] at H
            have c31b0 : decide (t135 < 0) = false := decide_eq_false c31
            clear c31
            by_cases c38 : t137 ≥ 0
            ·
             rw [if_pos c38] at H
             have c38b0 : decide (0 ≤ t137) = true := decide_eq_true c38
             clear c38
             replace H := Option.bind_eq_some_iff.mp H
             obtain ⟨t140, A390, H⟩ := H
             replace H : (some t140) = some r := H
             have A39 := aM_ A390
             clear A390
             obtain rfl := Option.some.inj H
             go_wp2_with (first | ((with_reducible refine gate_callee (f := 26) rfl ?_); refine goesL_ (some 48) rfl rfl Tryd.func26 (by kernel_rfl) rfl #[.string a0, .string a1] rfl (by (try simp only [List.map_toArray, List.map_cons, List.map_nil]); first | done | rfl | (simp only [List.length_drop, List.length_take]; rfl)) ?_; (with_reducible refine (impl_KubeCompare.calls a0 a1 t130 _ A13.out).mono ?_); rintro e w40 ⟨rfl, hb⟩; refine ⟨_, rfl, ?_⟩; have n0_ := aM_ (below_step (by repeat (first | (with_reducible first | exact HB.out | apply bB_ | apply wN_ | apply bE_) | exact HB.out)) hb); clear HB; have HB := n0_; clear n0_; (try clear hb); (try clear hb2); (try clear hk); (try clear hi)) | ((with_reducible refine gate_callee (f := 25) rfl ?_); refine goesL_ (some 49) rfl rfl Tryd.func25 (by kernel_rfl) rfl #[.int .i64 t130] rfl (by (try simp only [List.map_toArray, List.map_cons, List.map_nil]); first | done | rfl | (simp only [List.length_drop, List.length_take]; rfl)) ?_; (with_reducible refine (spec_Sign.calls t130 t131 _ A14.out).mono ?_); rintro e w' ⟨rfl, ⟨nd, rfl⟩⟩; refine ⟨_, rfl, ?_⟩) | ((with_reducible refine gate_callee (f := 26) rfl ?_); refine goesL_ (some 52) rfl rfl Tryd.func26 (by kernel_rfl) rfl #[.string a1, .string a0] rfl (by (try simp only [List.map_toArray, List.map_cons, List.map_nil]); first | done | rfl | (simp only [List.length_drop, List.length_take]; rfl)) ?_; (with_reducible refine (impl_KubeCompare.calls a1 a0 t132 _ A15.out).mono ?_); rintro e w41 ⟨rfl, hb⟩; refine ⟨_, rfl, ?_⟩; have n0_ := aM_ (below_step (by repeat (first | (with_reducible first | exact HB.out | apply bB_ | apply wN_ | apply bE_) | exact HB.out)) hb); clear HB; have HB := n0_; clear n0_; (try clear hb); (try clear hb2); (try clear hk); (try clear hi)) | ((with_reducible refine gate_callee (f := 25) rfl ?_); refine goesL_ (some 53) rfl rfl Tryd.func25 (by kernel_rfl) rfl #[.int .i64 t132] rfl (by (try simp only [List.map_toArray, List.map_cons, List.map_nil]); first | done | rfl | (simp only [List.length_drop, List.length_take]; rfl)) ?_; (with_reducible refine (spec_Sign.calls t132 t133 _ A16.out).mono ?_); rintro e w' ⟨rfl, ⟨nd, rfl⟩⟩; refine ⟨_, rfl, ?_⟩) | ((with_reducible refine gate_callee (f := 26) rfl ?_); refine goesL_ (some 56) rfl rfl Tryd.func26 (by kernel_rfl) rfl #[.string a1, .string a2] rfl (by (try simp only [List.map_toArray, List.map_cons, List.map_nil]); first | done | rfl | (simp only [List.length_drop, List.length_take]; rfl)) ?_; (with_reducible refine (impl_KubeCompare.calls a1 a2 t134 _ A17.out).mono ?_); rintro e w42 ⟨rfl, hb⟩; refine ⟨_, rfl, ?_⟩; have n0_ := aM_ (below_step (by repeat (first | (with_reducible first | exact HB.out | apply bB_ | apply wN_ | apply bE_) | exact HB.out)) hb); clear HB; have HB := n0_; clear n0_; (try clear hb); (try clear hb2); (try clear hk); (try clear hi)) | ((with_reducible refine gate_callee (f := 25) rfl ?_); refine goesL_ (some 57) rfl rfl Tryd.func25 (by kernel_rfl) rfl #[.int .i64 t134] rfl (by (try simp only [List.map_toArray, List.map_cons, List.map_nil]); first | done | rfl | (simp only [List.length_drop, List.length_take]; rfl)) ?_; (with_reducible refine (spec_Sign.calls t134 t135 _ A18.out).mono ?_); rintro e w' ⟨rfl, ⟨nd, rfl⟩⟩; refine ⟨_, rfl, ?_⟩) | ((with_reducible refine gate_callee (f := 26) rfl ?_); refine goesL_ (some 60) rfl rfl Tryd.func26 (by kernel_rfl) rfl #[.string a0, .string a2] rfl (by (try simp only [List.map_toArray, List.map_cons, List.map_nil]); first | done | rfl | (simp only [List.length_drop, List.length_take]; rfl)) ?_; (with_reducible refine (impl_KubeCompare.calls a0 a2 t136 _ A19.out).mono ?_); rintro e w43 ⟨rfl, hb⟩; refine ⟨_, rfl, ?_⟩; have n0_ := aM_ (below_step (by repeat (first | (with_reducible first | exact HB.out | apply bB_ | apply wN_ | apply bE_) | exact HB.out)) hb); clear HB; have HB := n0_; clear n0_; (try clear hb); (try clear hb2); (try clear hk); (try clear hi)) | ((with_reducible refine gate_callee (f := 25) rfl ?_); refine goesL_ (some 61) rfl rfl Tryd.func25 (by kernel_rfl) rfl #[.int .i64 t136] rfl (by (try simp only [List.map_toArray, List.map_cons, List.map_nil]); first | done | rfl | (simp only [List.length_drop, List.length_take]; rfl)) ?_; (with_reducible refine (spec_Sign.calls t136 t137 _ A20.out).mono ?_); rintro e w' ⟨rfl, ⟨nd, rfl⟩⟩; refine ⟨_, rfl, ?_⟩) | (go_at_call 27; (with_reducible refine (laws_verAwake.calls  t140 _ A39.out (HGd.out.below (by repeat (first | (with_reducible first | exact HB.out | apply bB_ | apply wN_ | apply bE_) | exact HB.out)))).mono ?_); rintro e w44 ⟨rfl, hb⟩; have n0_ := aM_ (below_step (by repeat (first | (with_reducible first | exact HB.out | apply bB_ | apply wN_ | apply bE_) | exact HB.out)) hb); clear HB; have HB := n0_; clear n0_; (try clear hb); (try clear hb2); (try clear hk); (try clear hi)))
             go_ret
             exact ⟨by first | rfl | (simp [errW_none, errW_some] <;> rfl) | (simp [*, errW_none, errW_some] <;> rfl) | (exfalso; contradiction), by repeat (first | (with_reducible first | exact HB.out | apply bB_ | apply wN_ | apply bE_) | exact HB.out)⟩
            ·
             rw [if_neg c38] at H
             have c38b0 : decide (0 ≤ t137) = false := decide_eq_false c38
             clear c38
             obtain rfl := Option.some.inj H
             go_wp2_with (first | ((with_reducible refine gate_callee (f := 26) rfl ?_); refine goesL_ (some 48) rfl rfl Tryd.func26 (by kernel_rfl) rfl #[.string a0, .string a1] rfl (by (try simp only [List.map_toArray, List.map_cons, List.map_nil]); first | done | rfl | (simp only [List.length_drop, List.length_take]; rfl)) ?_; (with_reducible refine (impl_KubeCompare.calls a0 a1 t130 _ A13.out).mono ?_); rintro e w45 ⟨rfl, hb⟩; refine ⟨_, rfl, ?_⟩; have n0_ := aM_ (below_step (by repeat (first | (with_reducible first | exact HB.out | apply bB_ | apply wN_ | apply bE_) | exact HB.out)) hb); clear HB; have HB := n0_; clear n0_; (try clear hb); (try clear hb2); (try clear hk); (try clear hi)) | ((with_reducible refine gate_callee (f := 25) rfl ?_); refine goesL_ (some 49) rfl rfl Tryd.func25 (by kernel_rfl) rfl #[.int .i64 t130] rfl (by (try simp only [List.map_toArray, List.map_cons, List.map_nil]); first | done | rfl | (simp only [List.length_drop, List.length_take]; rfl)) ?_; (with_reducible refine (spec_Sign.calls t130 t131 _ A14.out).mono ?_); rintro e w' ⟨rfl, ⟨nd, rfl⟩⟩; refine ⟨_, rfl, ?_⟩) | ((with_reducible refine gate_callee (f := 26) rfl ?_); refine goesL_ (some 52) rfl rfl Tryd.func26 (by kernel_rfl) rfl #[.string a1, .string a0] rfl (by (try simp only [List.map_toArray, List.map_cons, List.map_nil]); first | done | rfl | (simp only [List.length_drop, List.length_take]; rfl)) ?_; (with_reducible refine (impl_KubeCompare.calls a1 a0 t132 _ A15.out).mono ?_); rintro e w46 ⟨rfl, hb⟩; refine ⟨_, rfl, ?_⟩; have n0_ := aM_ (below_step (by repeat (first | (with_reducible first | exact HB.out | apply bB_ | apply wN_ | apply bE_) | exact HB.out)) hb); clear HB; have HB := n0_; clear n0_; (try clear hb); (try clear hb2); (try clear hk); (try clear hi)) | ((with_reducible refine gate_callee (f := 25) rfl ?_); refine goesL_ (some 53) rfl rfl Tryd.func25 (by kernel_rfl) rfl #[.int .i64 t132] rfl (by (try simp only [List.map_toArray, List.map_cons, List.map_nil]); first | done | rfl | (simp only [List.length_drop, List.length_take]; rfl)) ?_; (with_reducible refine (spec_Sign.calls t132 t133 _ A16.out).mono ?_); rintro e w' ⟨rfl, ⟨nd, rfl⟩⟩; refine ⟨_, rfl, ?_⟩) | ((with_reducible refine gate_callee (f := 26) rfl ?_); refine goesL_ (some 56) rfl rfl Tryd.func26 (by kernel_rfl) rfl #[.string a1, .string a2] rfl (by (try simp only [List.map_toArray, List.map_cons, List.map_nil]); first | done | rfl | (simp only [List.length_drop, List.length_take]; rfl)) ?_; (with_reducible refine (impl_KubeCompare.calls a1 a2 t134 _ A17.out).mono ?_); rintro e w47 ⟨rfl, hb⟩; refine ⟨_, rfl, ?_⟩; have n0_ := aM_ (below_step (by repeat (first | (with_reducible first | exact HB.out | apply bB_ | apply wN_ | apply bE_) | exact HB.out)) hb); clear HB; have HB := n0_; clear n0_; (try clear hb); (try clear hb2); (try clear hk); (try clear hi)) | ((with_reducible refine gate_callee (f := 25) rfl ?_); refine goesL_ (some 57) rfl rfl Tryd.func25 (by kernel_rfl) rfl #[.int .i64 t134] rfl (by (try simp only [List.map_toArray, List.map_cons, List.map_nil]); first | done | rfl | (simp only [List.length_drop, List.length_take]; rfl)) ?_; (with_reducible refine (spec_Sign.calls t134 t135 _ A18.out).mono ?_); rintro e w' ⟨rfl, ⟨nd, rfl⟩⟩; refine ⟨_, rfl, ?_⟩) | ((with_reducible refine gate_callee (f := 26) rfl ?_); refine goesL_ (some 60) rfl rfl Tryd.func26 (by kernel_rfl) rfl #[.string a0, .string a2] rfl (by (try simp only [List.map_toArray, List.map_cons, List.map_nil]); first | done | rfl | (simp only [List.length_drop, List.length_take]; rfl)) ?_; (with_reducible refine (impl_KubeCompare.calls a0 a2 t136 _ A19.out).mono ?_); rintro e w48 ⟨rfl, hb⟩; refine ⟨_, rfl, ?_⟩; have n0_ := aM_ (below_step (by repeat (first | (with_reducible first | exact HB.out | apply bB_ | apply wN_ | apply bE_) | exact HB.out)) hb); clear HB; have HB := n0_; clear n0_; (try clear hb); (try clear hb2); (try clear hk); (try clear hi)) | ((with_reducible refine gate_callee (f := 25) rfl ?_); refine goesL_ (some 61) rfl rfl Tryd.func25 (by kernel_rfl) rfl #[.int .i64 t136] rfl (by (try simp only [List.map_toArray, List.map_cons, List.map_nil]); first | done | rfl | (simp only [List.length_drop, List.length_take]; rfl)) ?_; (with_reducible refine (spec_Sign.calls t136 t137 _ A20.out).mono ?_); rintro e w' ⟨rfl, ⟨nd, rfl⟩⟩; refine ⟨_, rfl, ?_⟩))
             go_ret
             exact ⟨by first | rfl | (simp [errW_none, errW_some] <;> rfl) | (simp [*, errW_none, errW_some] <;> rfl) | (exfalso; contradiction), by repeat (first | (with_reducible first | exact HB.out | apply bB_ | apply wN_ | apply bE_) | exact HB.out)⟩
         ·
          rw [if_neg c23] at H
          have c23b0 : (t131 == 0) = false := beq_eq_false_iff_ne.mpr c23
          have c23b1 : (t131 != 0) = true := bne_iff_ne.mpr c23
          obtain rfl := Option.some.inj H
          go_wp2_with (first | ((with_reducible refine gate_callee (f := 26) rfl ?_); refine goesL_ (some 48) rfl rfl Tryd.func26 (by kernel_rfl) rfl #[.string a0, .string a1] rfl (by (try simp only [List.map_toArray, List.map_cons, List.map_nil]); first | done | rfl | (simp only [List.length_drop, List.length_take]; rfl)) ?_; (with_reducible refine (impl_KubeCompare.calls a0 a1 t130 _ A13.out).mono ?_); rintro e w49 ⟨rfl, hb⟩; refine ⟨_, rfl, ?_⟩; have n0_ := aM_ (below_step (by repeat (first | (with_reducible first | exact HB.out | apply bB_ | apply wN_ | apply bE_) | exact HB.out)) hb); clear HB; have HB := n0_; clear n0_; (try clear hb); (try clear hb2); (try clear hk); (try clear hi)) | ((with_reducible refine gate_callee (f := 25) rfl ?_); refine goesL_ (some 49) rfl rfl Tryd.func25 (by kernel_rfl) rfl #[.int .i64 t130] rfl (by (try simp only [List.map_toArray, List.map_cons, List.map_nil]); first | done | rfl | (simp only [List.length_drop, List.length_take]; rfl)) ?_; (with_reducible refine (spec_Sign.calls t130 t131 _ A14.out).mono ?_); rintro e w' ⟨rfl, ⟨nd, rfl⟩⟩; refine ⟨_, rfl, ?_⟩) | ((with_reducible refine gate_callee (f := 26) rfl ?_); refine goesL_ (some 52) rfl rfl Tryd.func26 (by kernel_rfl) rfl #[.string a1, .string a0] rfl (by (try simp only [List.map_toArray, List.map_cons, List.map_nil]); first | done | rfl | (simp only [List.length_drop, List.length_take]; rfl)) ?_; (with_reducible refine (impl_KubeCompare.calls a1 a0 t132 _ A15.out).mono ?_); rintro e w50 ⟨rfl, hb⟩; refine ⟨_, rfl, ?_⟩; have n0_ := aM_ (below_step (by repeat (first | (with_reducible first | exact HB.out | apply bB_ | apply wN_ | apply bE_) | exact HB.out)) hb); clear HB; have HB := n0_; clear n0_; (try clear hb); (try clear hb2); (try clear hk); (try clear hi)) | ((with_reducible refine gate_callee (f := 25) rfl ?_); refine goesL_ (some 53) rfl rfl Tryd.func25 (by kernel_rfl) rfl #[.int .i64 t132] rfl (by (try simp only [List.map_toArray, List.map_cons, List.map_nil]); first | done | rfl | (simp only [List.length_drop, List.length_take]; rfl)) ?_; (with_reducible refine (spec_Sign.calls t132 t133 _ A16.out).mono ?_); rintro e w' ⟨rfl, ⟨nd, rfl⟩⟩; refine ⟨_, rfl, ?_⟩) | ((with_reducible refine gate_callee (f := 26) rfl ?_); refine goesL_ (some 56) rfl rfl Tryd.func26 (by kernel_rfl) rfl #[.string a1, .string a2] rfl (by (try simp only [List.map_toArray, List.map_cons, List.map_nil]); first | done | rfl | (simp only [List.length_drop, List.length_take]; rfl)) ?_; (with_reducible refine (impl_KubeCompare.calls a1 a2 t134 _ A17.out).mono ?_); rintro e w51 ⟨rfl, hb⟩; refine ⟨_, rfl, ?_⟩; have n0_ := aM_ (below_step (by repeat (first | (with_reducible first | exact HB.out | apply bB_ | apply wN_ | apply bE_) | exact HB.out)) hb); clear HB; have HB := n0_; clear n0_; (try clear hb); (try clear hb2); (try clear hk); (try clear hi)) | ((with_reducible refine gate_callee (f := 25) rfl ?_); refine goesL_ (some 57) rfl rfl Tryd.func25 (by kernel_rfl) rfl #[.int .i64 t134] rfl (by (try simp only [List.map_toArray, List.map_cons, List.map_nil]); first | done | rfl | (simp only [List.length_drop, List.length_take]; rfl)) ?_; (with_reducible refine (spec_Sign.calls t134 t135 _ A18.out).mono ?_); rintro e w' ⟨rfl, ⟨nd, rfl⟩⟩; refine ⟨_, rfl, ?_⟩) | ((with_reducible refine gate_callee (f := 26) rfl ?_); refine goesL_ (some 60) rfl rfl Tryd.func26 (by kernel_rfl) rfl #[.string a0, .string a2] rfl (by (try simp only [List.map_toArray, List.map_cons, List.map_nil]); first | done | rfl | (simp only [List.length_drop, List.length_take]; rfl)) ?_; (with_reducible refine (impl_KubeCompare.calls a0 a2 t136 _ A19.out).mono ?_); rintro e w52 ⟨rfl, hb⟩; refine ⟨_, rfl, ?_⟩; have n0_ := aM_ (below_step (by repeat (first | (with_reducible first | exact HB.out | apply bB_ | apply wN_ | apply bE_) | exact HB.out)) hb); clear HB; have HB := n0_; clear n0_; (try clear hb); (try clear hb2); (try clear hk); (try clear hi)) | ((with_reducible refine gate_callee (f := 25) rfl ?_); refine goesL_ (some 61) rfl rfl Tryd.func25 (by kernel_rfl) rfl #[.int .i64 t136] rfl (by (try simp only [List.map_toArray, List.map_cons, List.map_nil]); first | done | rfl | (simp only [List.length_drop, List.length_take]; rfl)) ?_; (with_reducible refine (spec_Sign.calls t136 t137 _ A20.out).mono ?_); rintro e w' ⟨rfl, ⟨nd, rfl⟩⟩; refine ⟨_, rfl, ?_⟩))
          go_ret
          exact ⟨by first | rfl | (simp [errW_none, errW_some] <;> rfl) | (simp [*, errW_none, errW_some] <;> rfl) | (exfalso; contradiction), by repeat (first | (with_reducible first | exact HB.out | apply bB_ | apply wN_ | apply bE_) | exact HB.out)⟩
        ·
         rw [if_neg c22] at H
         have c22b0 : (a0.toList == a1.toList) = false := beq_eq_false_iff_ne.mpr c22
         have c22b1 : (a0.toList != a1.toList) = true := bne_iff_ne.mpr c22
         by_cases c53 : t131 < 0
         ·
          rw [if_pos c53] at H
          have c53b0 : decide (t131 < 0) = true := decide_eq_true c53
          clear c53
          replace H := Option.bind_eq_some_iff.mp H
          obtain ⟨t141, A540, H⟩ := H
          replace H : (some t141) = some r := H
          have A54 := aM_ A540
          clear A540
          obtain rfl := Option.some.inj H
          go_wp2_with (first | ((with_reducible refine gate_callee (f := 26) rfl ?_); refine goesL_ (some 48) rfl rfl Tryd.func26 (by kernel_rfl) rfl #[.string a0, .string a1] rfl (by (try simp only [List.map_toArray, List.map_cons, List.map_nil]); first | done | rfl | (simp only [List.length_drop, List.length_take]; rfl)) ?_; (with_reducible refine (impl_KubeCompare.calls a0 a1 t130 _ A13.out).mono ?_); rintro e w55 ⟨rfl, hb⟩; refine ⟨_, rfl, ?_⟩; have n0_ := aM_ (below_step (by repeat (first | (with_reducible first | exact HB.out | apply bB_ | apply wN_ | apply bE_) | exact HB.out)) hb); clear HB; have HB := n0_; clear n0_; (try clear hb); (try clear hb2); (try clear hk); (try clear hi)) | ((with_reducible refine gate_callee (f := 25) rfl ?_); refine goesL_ (some 49) rfl rfl Tryd.func25 (by kernel_rfl) rfl #[.int .i64 t130] rfl (by (try simp only [List.map_toArray, List.map_cons, List.map_nil]); first | done | rfl | (simp only [List.length_drop, List.length_take]; rfl)) ?_; (with_reducible refine (spec_Sign.calls t130 t131 _ A14.out).mono ?_); rintro e w' ⟨rfl, ⟨nd, rfl⟩⟩; refine ⟨_, rfl, ?_⟩) | ((with_reducible refine gate_callee (f := 26) rfl ?_); refine goesL_ (some 52) rfl rfl Tryd.func26 (by kernel_rfl) rfl #[.string a1, .string a0] rfl (by (try simp only [List.map_toArray, List.map_cons, List.map_nil]); first | done | rfl | (simp only [List.length_drop, List.length_take]; rfl)) ?_; (with_reducible refine (impl_KubeCompare.calls a1 a0 t132 _ A15.out).mono ?_); rintro e w56 ⟨rfl, hb⟩; refine ⟨_, rfl, ?_⟩; have n0_ := aM_ (below_step (by repeat (first | (with_reducible first | exact HB.out | apply bB_ | apply wN_ | apply bE_) | exact HB.out)) hb); clear HB; have HB := n0_; clear n0_; (try clear hb); (try clear hb2); (try clear hk); (try clear hi)) | ((with_reducible refine gate_callee (f := 25) rfl ?_); refine goesL_ (some 53) rfl rfl Tryd.func25 (by kernel_rfl) rfl #[.int .i64 t132] rfl (by (try simp only [List.map_toArray, List.map_cons, List.map_nil]); first | done | rfl | (simp only [List.length_drop, List.length_take]; rfl)) ?_; (with_reducible refine (spec_Sign.calls t132 t133 _ A16.out).mono ?_); rintro e w' ⟨rfl, ⟨nd, rfl⟩⟩; refine ⟨_, rfl, ?_⟩) | ((with_reducible refine gate_callee (f := 26) rfl ?_); refine goesL_ (some 56) rfl rfl Tryd.func26 (by kernel_rfl) rfl #[.string a1, .string a2] rfl (by (try simp only [List.map_toArray, List.map_cons, List.map_nil]); first | done | rfl | (simp only [List.length_drop, List.length_take]; rfl)) ?_; (with_reducible refine (impl_KubeCompare.calls a1 a2 t134 _ A17.out).mono ?_); rintro e w57 ⟨rfl, hb⟩; refine ⟨_, rfl, ?_⟩; have n0_ := aM_ (below_step (by repeat (first | (with_reducible first | exact HB.out | apply bB_ | apply wN_ | apply bE_) | exact HB.out)) hb); clear HB; have HB := n0_; clear n0_; (try clear hb); (try clear hb2); (try clear hk); (try clear hi)) | ((with_reducible refine gate_callee (f := 25) rfl ?_); refine goesL_ (some 57) rfl rfl Tryd.func25 (by kernel_rfl) rfl #[.int .i64 t134] rfl (by (try simp only [List.map_toArray, List.map_cons, List.map_nil]); first | done | rfl | (simp only [List.length_drop, List.length_take]; rfl)) ?_; (with_reducible refine (spec_Sign.calls t134 t135 _ A18.out).mono ?_); rintro e w' ⟨rfl, ⟨nd, rfl⟩⟩; refine ⟨_, rfl, ?_⟩) | ((with_reducible refine gate_callee (f := 26) rfl ?_); refine goesL_ (some 60) rfl rfl Tryd.func26 (by kernel_rfl) rfl #[.string a0, .string a2] rfl (by (try simp only [List.map_toArray, List.map_cons, List.map_nil]); first | done | rfl | (simp only [List.length_drop, List.length_take]; rfl)) ?_; (with_reducible refine (impl_KubeCompare.calls a0 a2 t136 _ A19.out).mono ?_); rintro e w58 ⟨rfl, hb⟩; refine ⟨_, rfl, ?_⟩; have n0_ := aM_ (below_step (by repeat (first | (with_reducible first | exact HB.out | apply bB_ | apply wN_ | apply bE_) | exact HB.out)) hb); clear HB; have HB := n0_; clear n0_; (try clear hb); (try clear hb2); (try clear hk); (try clear hi)) | ((with_reducible refine gate_callee (f := 25) rfl ?_); refine goesL_ (some 61) rfl rfl Tryd.func25 (by kernel_rfl) rfl #[.int .i64 t136] rfl (by (try simp only [List.map_toArray, List.map_cons, List.map_nil]); first | done | rfl | (simp only [List.length_drop, List.length_take]; rfl)) ?_; (with_reducible refine (spec_Sign.calls t136 t137 _ A20.out).mono ?_); rintro e w' ⟨rfl, ⟨nd, rfl⟩⟩; refine ⟨_, rfl, ?_⟩) | (go_at_call 27; (with_reducible refine (laws_verAwake.calls  t141 _ A54.out (HGd.out.below (by repeat (first | (with_reducible first | exact HB.out | apply bB_ | apply wN_ | apply bE_) | exact HB.out)))).mono ?_); rintro e w59 ⟨rfl, hb⟩; have n0_ := aM_ (below_step (by repeat (first | (with_reducible first | exact HB.out | apply bB_ | apply wN_ | apply bE_) | exact HB.out)) hb); clear HB; have HB := n0_; clear n0_; (try clear hb); (try clear hb2); (try clear hk); (try clear hi)))
          go_ret
          exact ⟨by first | rfl | (simp [errW_none, errW_some] <;> rfl) | (simp [*, errW_none, errW_some] <;> rfl) | (exfalso; contradiction), by repeat (first | (with_reducible first | exact HB.out | apply bB_ | apply wN_ | apply bE_) | exact HB.out)⟩
         ·
          rw [if_neg c53] at H
          have c53b0 : decide (t131 < 0) = false := decide_eq_false c53
          clear c53
          by_cases c60 : t135 < 0
          ·
           rw [if_pos c60] at H
           have c60b0 : decide (t135 < 0) = true := decide_eq_true c60
           clear c60
           replace H := Option.bind_eq_some_iff.mp H
           obtain ⟨t142, A610, H⟩ := H
           replace H : (some t142) = some r := H
           have A61 := aM_ A610
           clear A610
           obtain rfl := Option.some.inj H
           go_wp2_with (first | ((with_reducible refine gate_callee (f := 26) rfl ?_); refine goesL_ (some 48) rfl rfl Tryd.func26 (by kernel_rfl) rfl #[.string a0, .string a1] rfl (by (try simp only [List.map_toArray, List.map_cons, List.map_nil]); first | done | rfl | (simp only [List.length_drop, List.length_take]; rfl)) ?_; (with_reducible refine (impl_KubeCompare.calls a0 a1 t130 _ A13.out).mono ?_); rintro e w62 ⟨rfl, hb⟩; refine ⟨_, rfl, ?_⟩; have n0_ := aM_ (below_step (by repeat (first | (with_reducible first | exact HB.out | apply bB_ | apply wN_ | apply bE_) | exact HB.out)) hb); clear HB; have HB := n0_; clear n0_; (try clear hb); (try clear hb2); (try clear hk); (try clear hi)) | ((with_reducible refine gate_callee (f := 25) rfl ?_); refine goesL_ (some 49) rfl rfl Tryd.func25 (by kernel_rfl) rfl #[.int .i64 t130] rfl (by (try simp only [List.map_toArray, List.map_cons, List.map_nil]); first | done | rfl | (simp only [List.length_drop, List.length_take]; rfl)) ?_; (with_reducible refine (spec_Sign.calls t130 t131 _ A14.out).mono ?_); rintro e w' ⟨rfl, ⟨nd, rfl⟩⟩; refine ⟨_, rfl, ?_⟩) | ((with_reducible refine gate_callee (f := 26) rfl ?_); refine goesL_ (some 52) rfl rfl Tryd.func26 (by kernel_rfl) rfl #[.string a1, .string a0] rfl (by (try simp only [List.map_toArray, List.map_cons, List.map_nil]); first | done | rfl | (simp only [List.length_drop, List.length_take]; rfl)) ?_; (with_reducible refine (impl_KubeCompare.calls a1 a0 t132 _ A15.out).mono ?_); rintro e w63 ⟨rfl, hb⟩; refine ⟨_, rfl, ?_⟩; have n0_ := aM_ (below_step (by repeat (first | (with_reducible first | exact HB.out | apply bB_ | apply wN_ | apply bE_) | exact HB.out)) hb); clear HB; have HB := n0_; clear n0_; (try clear hb); (try clear hb2); (try clear hk); (try clear hi)) | ((with_reducible refine gate_callee (f := 25) rfl ?_); refine goesL_ (some 53) rfl rfl Tryd.func25 (by kernel_rfl) rfl #[.int .i64 t132] rfl (by (try simp only [List.map_toArray, List.map_cons, List.map_nil]); first | done | rfl | (simp only [List.length_drop, List.length_take]; rfl)) ?_; (with_reducible refine (spec_Sign.calls t132 t133 _ A16.out).mono ?_); rintro e w' ⟨rfl, ⟨nd, rfl⟩⟩; refine ⟨_, rfl, ?_⟩) | ((with_reducible refine gate_callee (f := 26) rfl ?_); refine goesL_ (some 56) rfl rfl Tryd.func26 (by kernel_rfl) rfl #[.string a1, .string a2] rfl (by (try simp only [List.map_toArray, List.map_cons, List.map_nil]); first | done | rfl | (simp only [List.length_drop, List.length_take]; rfl)) ?_; (with_reducible refine (impl_KubeCompare.calls a1 a2 t134 _ A17.out).mono ?_); rintro e w64 ⟨rfl, hb⟩; refine ⟨_, rfl, ?_⟩; have n0_ := aM_ (below_step (by repeat (first | (with_reducible first | exact HB.out | apply bB_ | apply wN_ | apply bE_) | exact HB.out)) hb); clear HB; have HB := n0_; clear n0_; (try clear hb); (try clear hb2); (try clear hk); (try clear hi)) | ((with_reducible refine gate_callee (f := 25) rfl ?_); refine goesL_ (some 57) rfl rfl Tryd.func25 (by kernel_rfl) rfl #[.int .i64 t134] rfl (by (try simp only [List.map_toArray, List.map_cons, List.map_nil]); first | done | rfl | (simp only [List.length_drop, List.length_take]; rfl)) ?_; (with_reducible refine (spec_Sign.calls t134 t135 _ A18.out).mono ?_); rintro e w' ⟨rfl, ⟨nd, rfl⟩⟩; refine ⟨_, rfl, ?_⟩) | ((with_reducible refine gate_callee (f := 26) rfl ?_); refine goesL_ (some 60) rfl rfl Tryd.func26 (by kernel_rfl) rfl #[.string a0, .string a2] rfl (by (try simp only [List.map_toArray, List.map_cons, List.map_nil]); first | done | rfl | (simp only [List.length_drop, List.length_take]; rfl)) ?_; (with_reducible refine (impl_KubeCompare.calls a0 a2 t136 _ A19.out).mono ?_); rintro e w65 ⟨rfl, hb⟩; refine ⟨_, rfl, ?_⟩; have n0_ := aM_ (below_step (by repeat (first | (with_reducible first | exact HB.out | apply bB_ | apply wN_ | apply bE_) | exact HB.out)) hb); clear HB; have HB := n0_; clear n0_; (try clear hb); (try clear hb2); (try clear hk); (try clear hi)) | ((with_reducible refine gate_callee (f := 25) rfl ?_); refine goesL_ (some 61) rfl rfl Tryd.func25 (by kernel_rfl) rfl #[.int .i64 t136] rfl (by (try simp only [List.map_toArray, List.map_cons, List.map_nil]); first | done | rfl | (simp only [List.length_drop, List.length_take]; rfl)) ?_; (with_reducible refine (spec_Sign.calls t136 t137 _ A20.out).mono ?_); rintro e w' ⟨rfl, ⟨nd, rfl⟩⟩; refine ⟨_, rfl, ?_⟩) | (go_at_call 27; (with_reducible refine (laws_verAwake.calls  t142 _ A61.out (HGd.out.below (by repeat (first | (with_reducible first | exact HB.out | apply bB_ | apply wN_ | apply bE_) | exact HB.out)))).mono ?_); rintro e w66 ⟨rfl, hb⟩; have n0_ := aM_ (below_step (by repeat (first | (with_reducible first | exact HB.out | apply bB_ | apply wN_ | apply bE_) | exact HB.out)) hb); clear HB; have HB := n0_; clear n0_; (try clear hb); (try clear hb2); (try clear hk); (try clear hi)))
           go_ret
           exact ⟨by first | rfl | (simp [errW_none, errW_some] <;> rfl) | (simp [*, errW_none, errW_some] <;> rfl) | (exfalso; contradiction), by repeat (first | (with_reducible first | exact HB.out | apply bB_ | apply wN_ | apply bE_) | exact HB.out)⟩
          ·
           rw [if_neg c60] at H
           have c60b0 : decide (t135 < 0) = false := decide_eq_false c60
           clear c60
           by_cases c67 : t137 ≥ 0
           ·
            rw [if_pos c67] at H
            have c67b0 : decide (0 ≤ t137) = true := decide_eq_true c67
            clear c67
            replace H := Option.bind_eq_some_iff.mp H
            obtain ⟨t143, A680, H⟩ := H
            replace H : (some t143) = some r := H
            have A68 := aM_ A680
            clear A680
            obtain rfl := Option.some.inj H
            go_wp2_with (first | ((with_reducible refine gate_callee (f := 26) rfl ?_); refine goesL_ (some 48) rfl rfl Tryd.func26 (by kernel_rfl) rfl #[.string a0, .string a1] rfl (by (try simp only [List.map_toArray, List.map_cons, List.map_nil]); first | done | rfl | (simp only [List.length_drop, List.length_take]; rfl)) ?_; (with_reducible refine (impl_KubeCompare.calls a0 a1 t130 _ A13.out).mono ?_); rintro e w69 ⟨rfl, hb⟩; refine ⟨_, rfl, ?_⟩; have n0_ := aM_ (below_step (by repeat (first | (with_reducible first | exact HB.out | apply bB_ | apply wN_ | apply bE_) | exact HB.out)) hb); clear HB; have HB := n0_; clear n0_; (try clear hb); (try clear hb2); (try clear hk); (try clear hi)) | ((with_reducible refine gate_callee (f := 25) rfl ?_); refine goesL_ (some 49) rfl rfl Tryd.func25 (by kernel_rfl) rfl #[.int .i64 t130] rfl (by (try simp only [List.map_toArray, List.map_cons, List.map_nil]); first | done | rfl | (simp only [List.length_drop, List.length_take]; rfl)) ?_; (with_reducible refine (spec_Sign.calls t130 t131 _ A14.out).mono ?_); rintro e w' ⟨rfl, ⟨nd, rfl⟩⟩; refine ⟨_, rfl, ?_⟩) | ((with_reducible refine gate_callee (f := 26) rfl ?_); refine goesL_ (some 52) rfl rfl Tryd.func26 (by kernel_rfl) rfl #[.string a1, .string a0] rfl (by (try simp only [List.map_toArray, List.map_cons, List.map_nil]); first | done | rfl | (simp only [List.length_drop, List.length_take]; rfl)) ?_; (with_reducible refine (impl_KubeCompare.calls a1 a0 t132 _ A15.out).mono ?_); rintro e w70 ⟨rfl, hb⟩; refine ⟨_, rfl, ?_⟩; have n0_ := aM_ (below_step (by repeat (first | (with_reducible first | exact HB.out | apply bB_ | apply wN_ | apply bE_) | exact HB.out)) hb); clear HB; have HB := n0_; clear n0_; (try clear hb); (try clear hb2); (try clear hk); (try clear hi)) | ((with_reducible refine gate_callee (f := 25) rfl ?_); refine goesL_ (some 53) rfl rfl Tryd.func25 (by kernel_rfl) rfl #[.int .i64 t132] rfl (by (try simp only [List.map_toArray, List.map_cons, List.map_nil]); first | done | rfl | (simp only [List.length_drop, List.length_take]; rfl)) ?_; (with_reducible refine (spec_Sign.calls t132 t133 _ A16.out).mono ?_); rintro e w' ⟨rfl, ⟨nd, rfl⟩⟩; refine ⟨_, rfl, ?_⟩) | ((with_reducible refine gate_callee (f := 26) rfl ?_); refine goesL_ (some 56) rfl rfl Tryd.func26 (by kernel_rfl) rfl #[.string a1, .string a2] rfl (by (try simp only [List.map_toArray, List.map_cons, List.map_nil]); first | done | rfl | (simp only [List.length_drop, List.length_take]; rfl)) ?_; (with_reducible refine (impl_KubeCompare.calls a1 a2 t134 _ A17.out).mono ?_); rintro e w71 ⟨rfl, hb⟩; refine ⟨_, rfl, ?_⟩; have n0_ := aM_ (below_step (by repeat (first | (with_reducible first | exact HB.out | apply bB_ | apply wN_ | apply bE_) | exact HB.out)) hb); clear HB; have HB := n0_; clear n0_; (try clear hb); (try clear hb2); (try clear hk); (try clear hi)) | ((with_reducible refine gate_callee (f := 25) rfl ?_); refine goesL_ (some 57) rfl rfl Tryd.func25 (by kernel_rfl) rfl #[.int .i64 t134] rfl (by (try simp only [List.map_toArray, List.map_cons, List.map_nil]); first | done | rfl | (simp only [List.length_drop, List.length_take]; rfl)) ?_; (with_reducible refine (spec_Sign.calls t134 t135 _ A18.out).mono ?_); rintro e w' ⟨rfl, ⟨nd, rfl⟩⟩; refine ⟨_, rfl, ?_⟩) | ((with_reducible refine gate_callee (f := 26) rfl ?_); refine goesL_ (some 60) rfl rfl Tryd.func26 (by kernel_rfl) rfl #[.string a0, .string a2] rfl (by (try simp only [List.map_toArray, List.map_cons, List.map_nil]); first | done | rfl | (simp only [List.length_drop, List.length_take]; rfl)) ?_; (with_reducible refine (impl_KubeCompare.calls a0 a2 t136 _ A19.out).mono ?_); rintro e w72 ⟨rfl, hb⟩; refine ⟨_, rfl, ?_⟩; have n0_ := aM_ (below_step (by repeat (first | (with_reducible first | exact HB.out | apply bB_ | apply wN_ | apply bE_) | exact HB.out)) hb); clear HB; have HB := n0_; clear n0_; (try clear hb); (try clear hb2); (try clear hk); (try clear hi)) | ((with_reducible refine gate_callee (f := 25) rfl ?_); refine goesL_ (some 61) rfl rfl Tryd.func25 (by kernel_rfl) rfl #[.int .i64 t136] rfl (by (try simp only [List.map_toArray, List.map_cons, List.map_nil]); first | done | rfl | (simp only [List.length_drop, List.length_take]; rfl)) ?_; (with_reducible refine (spec_Sign.calls t136 t137 _ A20.out).mono ?_); rintro e w' ⟨rfl, ⟨nd, rfl⟩⟩; refine ⟨_, rfl, ?_⟩) | (go_at_call 27; (with_reducible refine (laws_verAwake.calls  t143 _ A68.out (HGd.out.below (by repeat (first | (with_reducible first | exact HB.out | apply bB_ | apply wN_ | apply bE_) | exact HB.out)))).mono ?_); rintro e w73 ⟨rfl, hb⟩; have n0_ := aM_ (below_step (by repeat (first | (with_reducible first | exact HB.out | apply bB_ | apply wN_ | apply bE_) | exact HB.out)) hb); clear HB; have HB := n0_; clear n0_; (try clear hb); (try clear hb2); (try clear hk); (try clear hi)))
            go_ret
            exact ⟨by first | rfl | (simp [errW_none, errW_some] <;> rfl) | (simp [*, errW_none, errW_some] <;> rfl) | (exfalso; contradiction), by repeat (first | (with_reducible first | exact HB.out | apply bB_ | apply wN_ | apply bE_) | exact HB.out)⟩
           ·
            rw [if_neg c67] at H
            have c67b0 : decide (0 ≤ t137) = false := decide_eq_false c67
            clear c67
            obtain rfl := Option.some.inj H
            go_wp2_with (first | ((with_reducible refine gate_callee (f := 26) rfl ?_); refine goesL_ (some 48) rfl rfl Tryd.func26 (by kernel_rfl) rfl #[.string a0, .string a1] rfl (by (try simp only [List.map_toArray, List.map_cons, List.map_nil]); first | done | rfl | (simp only [List.length_drop, List.length_take]; rfl)) ?_; (with_reducible refine (impl_KubeCompare.calls a0 a1 t130 _ A13.out).mono ?_); rintro e w74 ⟨rfl, hb⟩; refine ⟨_, rfl, ?_⟩; have n0_ := aM_ (below_step (by repeat (first | (with_reducible first | exact HB.out | apply bB_ | apply wN_ | apply bE_) | exact HB.out)) hb); clear HB; have HB := n0_; clear n0_; (try clear hb); (try clear hb2); (try clear hk); (try clear hi)) | ((with_reducible refine gate_callee (f := 25) rfl ?_); refine goesL_ (some 49) rfl rfl Tryd.func25 (by kernel_rfl) rfl #[.int .i64 t130] rfl (by (try simp only [List.map_toArray, List.map_cons, List.map_nil]); first | done | rfl | (simp only [List.length_drop, List.length_take]; rfl)) ?_; (with_reducible refine (spec_Sign.calls t130 t131 _ A14.out).mono ?_); rintro e w' ⟨rfl, ⟨nd, rfl⟩⟩; refine ⟨_, rfl, ?_⟩) | ((with_reducible refine gate_callee (f := 26) rfl ?_); refine goesL_ (some 52) rfl rfl Tryd.func26 (by kernel_rfl) rfl #[.string a1, .string a0] rfl (by (try simp only [List.map_toArray, List.map_cons, List.map_nil]); first | done | rfl | (simp only [List.length_drop, List.length_take]; rfl)) ?_; (with_reducible refine (impl_KubeCompare.calls a1 a0 t132 _ A15.out).mono ?_); rintro e w75 ⟨rfl, hb⟩; refine ⟨_, rfl, ?_⟩; have n0_ := aM_ (below_step (by repeat (first | (with_reducible first | exact HB.out | apply bB_ | apply wN_ | apply bE_) | exact HB.out)) hb); clear HB; have HB := n0_; clear n0_; (try clear hb); (try clear hb2); (try clear hk); (try clear hi)) | ((with_reducible refine gate_callee (f := 25) rfl ?_); refine goesL_ (some 53) rfl rfl Tryd.func25 (by kernel_rfl) rfl #[.int .i64 t132] rfl (by (try simp only [List.map_toArray, List.map_cons, List.map_nil]); first | done | rfl | (simp only [List.length_drop, List.length_take]; rfl)) ?_; (with_reducible refine (spec_Sign.calls t132 t133 _ A16.out).mono ?_); rintro e w' ⟨rfl, ⟨nd, rfl⟩⟩; refine ⟨_, rfl, ?_⟩) | ((with_reducible refine gate_callee (f := 26) rfl ?_); refine goesL_ (some 56) rfl rfl Tryd.func26 (by kernel_rfl) rfl #[.string a1, .string a2] rfl (by (try simp only [List.map_toArray, List.map_cons, List.map_nil]); first | done | rfl | (simp only [List.length_drop, List.length_take]; rfl)) ?_; (with_reducible refine (impl_KubeCompare.calls a1 a2 t134 _ A17.out).mono ?_); rintro e w76 ⟨rfl, hb⟩; refine ⟨_, rfl, ?_⟩; have n0_ := aM_ (below_step (by repeat (first | (with_reducible first | exact HB.out | apply bB_ | apply wN_ | apply bE_) | exact HB.out)) hb); clear HB; have HB := n0_; clear n0_; (try clear hb); (try clear hb2); (try clear hk); (try clear hi)) | ((with_reducible refine gate_callee (f := 25) rfl ?_); refine goesL_ (some 57) rfl rfl Tryd.func25 (by kernel_rfl) rfl #[.int .i64 t134] rfl (by (try simp only [List.map_toArray, List.map_cons, List.map_nil]); first | done | rfl | (simp only [List.length_drop, List.length_take]; rfl)) ?_; (with_reducible refine (spec_Sign.calls t134 t135 _ A18.out).mono ?_); rintro e w' ⟨rfl, ⟨nd, rfl⟩⟩; refine ⟨_, rfl, ?_⟩) | ((with_reducible refine gate_callee (f := 26) rfl ?_); refine goesL_ (some 60) rfl rfl Tryd.func26 (by kernel_rfl) rfl #[.string a0, .string a2] rfl (by (try simp only [List.map_toArray, List.map_cons, List.map_nil]); first | done | rfl | (simp only [List.length_drop, List.length_take]; rfl)) ?_; (with_reducible refine (impl_KubeCompare.calls a0 a2 t136 _ A19.out).mono ?_); rintro e w77 ⟨rfl, hb⟩; refine ⟨_, rfl, ?_⟩; have n0_ := aM_ (below_step (by repeat (first | (with_reducible first | exact HB.out | apply bB_ | apply wN_ | apply bE_) | exact HB.out)) hb); clear HB; have HB := n0_; clear n0_; (try clear hb); (try clear hb2); (try clear hk); (try clear hi)) | ((with_reducible refine gate_callee (f := 25) rfl ?_); refine goesL_ (some 61) rfl rfl Tryd.func25 (by kernel_rfl) rfl #[.int .i64 t136] rfl (by (try simp only [List.map_toArray, List.map_cons, List.map_nil]); first | done | rfl | (simp only [List.length_drop, List.length_take]; rfl)) ?_; (with_reducible refine (spec_Sign.calls t136 t137 _ A20.out).mono ?_); rintro e w' ⟨rfl, ⟨nd, rfl⟩⟩; refine ⟨_, rfl, ?_⟩))
            go_ret
            exact ⟨by first | rfl | (simp [errW_none, errW_some] <;> rfl) | (simp [*, errW_none, errW_some] <;> rfl) | (exfalso; contradiction), by repeat (first | (with_reducible first | exact HB.out | apply bB_ | apply wN_ | apply bE_) | exact HB.out)⟩
       ·
        rw [if_neg c21] at H
        have c21b0 : (t131 == (wrap64 (-t133))) = false := beq_eq_false_iff_ne.mpr c21
        have c21b1 : (t131 != (wrap64 (-t133))) = true := bne_iff_ne.mpr c21
        obtain rfl := Option.some.inj H
        go_wp2_with (first | ((with_reducible refine gate_callee (f := 26) rfl ?_); refine goesL_ (some 48) rfl rfl Tryd.func26 (by kernel_rfl) rfl #[.string a0, .string a1] rfl (by (try simp only [List.map_toArray, List.map_cons, List.map_nil]); first | done | rfl | (simp only [List.length_drop, List.length_take]; rfl)) ?_; (with_reducible refine (impl_KubeCompare.calls a0 a1 t130 _ A13.out).mono ?_); rintro e w78 ⟨rfl, hb⟩; refine ⟨_, rfl, ?_⟩; have n0_ := aM_ (below_step (by repeat (first | (with_reducible first | exact HB.out | apply bB_ | apply wN_ | apply bE_) | exact HB.out)) hb); clear HB; have HB := n0_; clear n0_; (try clear hb); (try clear hb2); (try clear hk); (try clear hi)) | ((with_reducible refine gate_callee (f := 25) rfl ?_); refine goesL_ (some 49) rfl rfl Tryd.func25 (by kernel_rfl) rfl #[.int .i64 t130] rfl (by (try simp only [List.map_toArray, List.map_cons, List.map_nil]); first | done | rfl | (simp only [List.length_drop, List.length_take]; rfl)) ?_; (with_reducible refine (spec_Sign.calls t130 t131 _ A14.out).mono ?_); rintro e w' ⟨rfl, ⟨nd, rfl⟩⟩; refine ⟨_, rfl, ?_⟩) | ((with_reducible refine gate_callee (f := 26) rfl ?_); refine goesL_ (some 52) rfl rfl Tryd.func26 (by kernel_rfl) rfl #[.string a1, .string a0] rfl (by (try simp only [List.map_toArray, List.map_cons, List.map_nil]); first | done | rfl | (simp only [List.length_drop, List.length_take]; rfl)) ?_; (with_reducible refine (impl_KubeCompare.calls a1 a0 t132 _ A15.out).mono ?_); rintro e w79 ⟨rfl, hb⟩; refine ⟨_, rfl, ?_⟩; have n0_ := aM_ (below_step (by repeat (first | (with_reducible first | exact HB.out | apply bB_ | apply wN_ | apply bE_) | exact HB.out)) hb); clear HB; have HB := n0_; clear n0_; (try clear hb); (try clear hb2); (try clear hk); (try clear hi)) | ((with_reducible refine gate_callee (f := 25) rfl ?_); refine goesL_ (some 53) rfl rfl Tryd.func25 (by kernel_rfl) rfl #[.int .i64 t132] rfl (by (try simp only [List.map_toArray, List.map_cons, List.map_nil]); first | done | rfl | (simp only [List.length_drop, List.length_take]; rfl)) ?_; (with_reducible refine (spec_Sign.calls t132 t133 _ A16.out).mono ?_); rintro e w' ⟨rfl, ⟨nd, rfl⟩⟩; refine ⟨_, rfl, ?_⟩) | ((with_reducible refine gate_callee (f := 26) rfl ?_); refine goesL_ (some 56) rfl rfl Tryd.func26 (by kernel_rfl) rfl #[.string a1, .string a2] rfl (by (try simp only [List.map_toArray, List.map_cons, List.map_nil]); first | done | rfl | (simp only [List.length_drop, List.length_take]; rfl)) ?_; (with_reducible refine (impl_KubeCompare.calls a1 a2 t134 _ A17.out).mono ?_); rintro e w80 ⟨rfl, hb⟩; refine ⟨_, rfl, ?_⟩; have n0_ := aM_ (below_step (by repeat (first | (with_reducible first | exact HB.out | apply bB_ | apply wN_ | apply bE_) | exact HB.out)) hb); clear HB; have HB := n0_; clear n0_; (try clear hb); (try clear hb2); (try clear hk); (try clear hi)) | ((with_reducible refine gate_callee (f := 25) rfl ?_); refine goesL_ (some 57) rfl rfl Tryd.func25 (by kernel_rfl) rfl #[.int .i64 t134] rfl (by (try simp only [List.map_toArray, List.map_cons, List.map_nil]); first | done | rfl | (simp only [List.length_drop, List.length_take]; rfl)) ?_; (with_reducible refine (spec_Sign.calls t134 t135 _ A18.out).mono ?_); rintro e w' ⟨rfl, ⟨nd, rfl⟩⟩; refine ⟨_, rfl, ?_⟩) | ((with_reducible refine gate_callee (f := 26) rfl ?_); refine goesL_ (some 60) rfl rfl Tryd.func26 (by kernel_rfl) rfl #[.string a0, .string a2] rfl (by (try simp only [List.map_toArray, List.map_cons, List.map_nil]); first | done | rfl | (simp only [List.length_drop, List.length_take]; rfl)) ?_; (with_reducible refine (impl_KubeCompare.calls a0 a2 t136 _ A19.out).mono ?_); rintro e w81 ⟨rfl, hb⟩; refine ⟨_, rfl, ?_⟩; have n0_ := aM_ (below_step (by repeat (first | (with_reducible first | exact HB.out | apply bB_ | apply wN_ | apply bE_) | exact HB.out)) hb); clear HB; have HB := n0_; clear n0_; (try clear hb); (try clear hb2); (try clear hk); (try clear hi)) | ((with_reducible refine gate_callee (f := 25) rfl ?_); refine goesL_ (some 61) rfl rfl Tryd.func25 (by kernel_rfl) rfl #[.int .i64 t136] rfl (by (try simp only [List.map_toArray, List.map_cons, List.map_nil]); first | done | rfl | (simp only [List.length_drop, List.length_take]; rfl)) ?_; (with_reducible refine (spec_Sign.calls t136 t137 _ A20.out).mono ?_); rintro e w' ⟨rfl, ⟨nd, rfl⟩⟩; refine ⟨_, rfl, ?_⟩))
        go_ret
        exact ⟨by first | rfl | (simp [errW_none, errW_some] <;> rfl) | (simp [*, errW_none, errW_some] <;> rfl) | (exfalso; contradiction), by repeat (first | (with_reducible first | exact HB.out | apply bB_ | apply wN_ | apply bE_) | exact HB.out)⟩

/-- THE ONE PURE STATEMENT of laws_FnKubeOrders: yours. -/
def laws_FnKubeOrders.Pure : Prop := ∀ (a0 : ByteArray) (a1 : ByteArray) (a2 : ByteArray), a0.size ≤ 140737488351232 → a1.size ≤ 140737488351232 → a2.size ≤ 140737488351232 → ∃ k, laws_FnKubeOrders.f k a0 a1 a2 = some true
theorem laws_FnKubeOrders.walk (P : laws_FnKubeOrders.Pure) (a0 : ByteArray) (a1 : ByteArray) (a2 : ByteArray) (w : World) (w0 : a0.size ≤ 140737488351232) (w1 : a1.size ≤ 140737488351232) (w2 : a2.size ≤ 140737488351232) (hgood : Pv.Good w) :
  Calls Tryd.prog 8 #[.string a0, .string a1, .string a2] w fun e w' => e = .returned (.bool true) ∧ Below w.heap.size w w' := by
 obtain ⟨k, h⟩ := P a0 a1 a2 w0 w1 w2
 refine (laws_FnKubeOrders.calls k a0 a1 a2 true w h hgood).mono ?_
 rintro e w' ⟨rfl, hd⟩
 exact ⟨rfl, hd⟩

end Go.Proofs.YtomoefldmgfaoaaDoor.PFnKubeOrders
