/- Functions of the program as plain Lean functions, and that the machine's calls do what these say: written for this claim by wip/myprint.py over the kit's print.py. -/
import Derived.Test.YtomoefldmgfaoaaDoorPFnVersionParsex0
namespace Go.Proofs.YtomoefldmgfaoaaDoor.PFnVersionParse
open Go.RowKit Go.Proofs.YtomoefldmgfaoaaDoorW.PrintWords Go.Proofs.YtomoefldmgfaoaaDoorW.PrintLast Go.Proofs.YtomoefldmgfaoaaDoorW.PrintMore
attribute [local go_sem] max2_int min2_int max_two min_two max_three min_three max_four min_four   -- for this text's walks alone
set_option linter.unusedVariables false
set_option linter.unusedSimpArgs false

-- NOT PRINTED: function 59 (version_Version_Components)

-- NOT PRINTED: function 60 (version_Version_PreRelease)

-- NOT PRINTED: function 61 (version_Version_BuildMetadata)

-- NOT PRINTED: function 91 (bytes_Buffer_tryGrowByReslice)

-- NOT PRINTED: function 104 (bytes_Buffer_Len)

-- NOT PRINTED: function 105 (bytes_Buffer_Reset)

-- NOT PRINTED: function 106 (bytes_growSlice)

-- NOT PRINTED: function 92 (bytes_Buffer_grow)

-- NOT PRINTED: function 83 (bytes_Buffer_WriteString)

-- NOT PRINTED: function 107 (strconv_small)

-- NOT PRINTED: function 123 (strconv_log10Pow2)

-- NOT PRINTED: function 124 (bits_Len64)

-- NOT PRINTED: function 125 (strconv_bool2_int)

-- NOT PRINTED: function 108 (strconv_numDigits)

-- NOT PRINTED: function 109 (strconv_formatBase10)

-- NOT PRINTED: function 126 (strconv_isPowerOfTwo)

-- NOT PRINTED: function 132 (bits_TrailingZeros32)

-- NOT PRINTED: function 133 (bits_TrailingZeros64)

-- NOT PRINTED: function 127 (bits_TrailingZeros)

-- NOT PRINTED: function 110 (strconv_formatBits)

-- NOT PRINTED: function 93 (strconv_FormatUint_93)

-- NOT PRINTED: function 84 (strconv_FormatUint_84)

-- NOT PRINTED: function 85 (bytes_Buffer_String)

-- NOT PRINTED: function 62 (version_Version_String)

-- NOT PRINTED: function 63 (version_Version_Major)

-- NOT PRINTED: function 64 (version_Version_Minor)

-- NOT PRINTED: function 65 (version_Version_Patch)

-- NOT PRINTED: function 29 (impl_ver)

-- NOT PRINTED: function 72 (errors_New)

-- NOT PRINTED: function 111 (version_zzBlanks)

-- NOT PRINTED: function 112 (version_zzDigits)

-- NOT PRINTED: function 94 (version_zzVersion)

-- NOT PRINTED: function 113 (version_zzIndex)

-- NOT PRINTED: function 95 (version_zzSplit)

-- NOT PRINTED: function 114 (stringslite_HasPrefix)

-- NOT PRINTED: function 96 (strings_HasPrefix)

-- NOT PRINTED: function 130 (stringslite_Clone)

-- NOT PRINTED: function 118 (strconv_syntaxError)

-- NOT PRINTED: function 119 (strconv_rangeError)

-- NOT PRINTED: function 135 (strconv_FormatInt)

-- NOT PRINTED: function 134 (strconv_Itoa_134)

-- NOT PRINTED: function 131 (strconv_Itoa_131)

-- NOT PRINTED: function 120 (strconv_baseError)

-- NOT PRINTED: function 121 (strconv_bitSizeError)

-- NOT PRINTED: function 102 (strconv_toError)

-- NOT PRINTED: function 128 (strconv_lower)

-- NOT PRINTED: function 129 (strconv_underscoreOK)

-- NOT PRINTED: function 115 (strconv_ParseUint_115)

-- NOT PRINTED: function 97 (strconv_ParseUint_97)

-- NOT PRINTED: function 116 (version_zzWords)

-- NOT PRINTED: function 98 (version_zzExtra)

-- NOT PRINTED: function 86 (version_parse)

-- NOT PRINTED: function 66 (version_ParseGeneric)

-- NOT PRINTED: function 67 (version_ParseSemantic)

-- NOT PRINTED: function 30 (version_MajorMinor)

-- NOT PRINTED: function 68 (version_ParseMajorMinor)

-- NOT PRINTED: function 69 (version_Parse)

-- NOT PRINTED: function 36 (impl_parsed)

/-! ### impl_VersionParse: function 14 -/
def impl_VersionParse.f (a0 : Int) (a1 : ByteArray) : Option (Bool × List Int × ByteArray × ByteArray × ByteArray × Int × Int × Int) :=
 if a1.size ≤ 549755813888 then
  match Pv.pkind a0 (Pv.Lb a1) with
  | none => some (false, [], ⟨#[]⟩, ⟨#[]⟩, ⟨#[]⟩, 0, 0, 0)
  | some q => some (true, Pv.zs q.2.1, Pv.mk q.2.2.1, Pv.mk q.2.2.2, Pv.mk (Pv.vtxt q.2.1 q.2.2.1 q.2.2.2), (Pv.pt q.2.1 0 : Int), (Pv.pt q.2.1 1 : Int), (Pv.pt q.2.1 2 : Int))
 else none
theorem impl_VersionParse.calls (a0 : Int) (a1 : ByteArray) (r1 : Bool) (r2 : List Int) (r3 r4 r5 : ByteArray) (r6 r7 r8 : Int) (w : World) (h : impl_VersionParse.f a0 a1 = some (r1, r2, r3, r4, r5, r6, r7, r8)) (hg : Pv.Good w) :
  Calls Tryd.prog 14 #[.int .i64 a0, .string a1] w fun e w' => ∃ v0_ : Value, e = .returned (.agg #[.bool r1, v0_, .string r3, .string r4, .string r5, .int .u64 r6, .int .u64 r7, .int .u64 r8]) ∧ Kd.R (Kd.int .u64) 22 w' w.heap.size (fun _ => True) v0_ r2 ∧ Below w.heap.size w w' := by
 unfold impl_VersionParse.f at h
 by_cases hs : a1.size ≤ 549755813888
 ·
  rw [if_pos hs] at h
  refine (Pv.vparse_calls a0 a1 hs w hg).mono ?_
  rintro e w' ⟨ht, hb⟩
  cases hk : Pv.pkind a0 (Pv.Lb a1) with
  | none =>
   rw [hk] at h ht
   simp only [Option.some.injEq, Prod.mk.injEq] at h
   obtain ⟨rfl, rfl, rfl, rfl, rfl, rfl, rfl, rfl⟩ := h
   exact ⟨_, ht, Kd.R_nil _ _ _ _ _, hb⟩
  | some q =>
   rw [hk] at h ht
   simp only [Option.some.injEq, Prod.mk.injEq] at h
   obtain ⟨rfl, rfl, rfl, rfl, rfl, rfl, rfl, rfl⟩ := h
   obtain ⟨v0, h1, h2⟩ := ht
   exact ⟨v0, h1, h2, hb⟩
 ·
  rw [if_neg hs] at h; cases h
/-! ### laws_verKind: function 15 -/
def laws_verKind.f (a0 : Int) : Option (Int) := some (Int.tmod (wrap64 ((Int.tmod a0 4) + 4)) 4)
set_option maxHeartbeats 8000000 in
set_option maxRecDepth 100000 in
theorem laws_verKind.calls (a0 : Int) (r : Int) (w : World) (h : laws_verKind.f a0 = some r) :
  Calls Tryd.prog 15 #[.int .i64 a0] w fun e w' => e = .returned (.int .i64 r) ∧ Drawn0 w w' := by
 have H : (some (Int.tmod (wrap64 ((Int.tmod a0 4) + 4)) 4)) = some r := h
 clear h
 obtain rfl := Option.some.inj H
 go_enter Tryd.func15, Tryd.ntmps15
 go_wp2
 go_ret
 exact ⟨by first | rfl | (simp; done) | (simp [*]; done), by repeat (first | exact Drawn0.refl _ | apply Drawn0.step)⟩

/-! ### spec_verDigit: function 32 -/
def spec_verDigit.f (a0 : Int) : Option (Bool) := if a0 ≥ 48 then (some (decide (a0 ≤ 57))) else (some false)
set_option maxHeartbeats 8000000 in
set_option maxRecDepth 100000 in
theorem spec_verDigit.calls (a0 : Int) (r : Bool) (w : World) (h : spec_verDigit.f a0 = some r) :
  Calls Tryd.prog 32 #[.int .u8 a0] w fun e w' => e = .returned (.bool r) ∧ Drawn0 w w' := by
 have H : (if a0 ≥ 48 then (some (decide (a0 ≤ 57))) else (some false)) = some r := h
 clear h
 by_cases c2 : a0 ≥ 48
 ·
  rw [if_pos c2] at H
  have c2b0 : decide (48 ≤ a0) = true := decide_eq_true c2
  clear c2
  obtain rfl := Option.some.inj H
  go_enter Tryd.func32, Tryd.ntmps32
  go_wp2
  go_ret
  exact ⟨by first | rfl | (simp; done) | (simp [*]; done), by repeat (first | exact Drawn0.refl _ | apply Drawn0.step)⟩
 ·
  rw [if_neg c2] at H
  have c2b0 : decide (48 ≤ a0) = false := decide_eq_false c2
  clear c2
  obtain rfl := Option.some.inj H
  go_enter Tryd.func32, Tryd.ntmps32
  go_wp2
  go_ret
  exact ⟨by first | rfl | (simp; done) | (simp [*]; done), by repeat (first | exact Drawn0.refl _ | apply Drawn0.step)⟩

/-! ### spec_VerLong: function 12 -/
def spec_VerLong.l0 : Nat → ByteArray → Int → Int → Option (Bool)
 | 0, _, _, _ => none
 | k + 1, x0, x3, x4 => if x4 < (x0.size : Int) then (if 0 ≤ x4 then ((spec_verDigit.f (bt x0 x4)).bind fun t121 => (if t121 = true then (if (wrap64 (x3 + 1)) ≥ 20 then (some true) else (spec_VerLong.l0 k x0 (wrap64 (x3 + 1)) (wrap64 (x4 + 1)))) else (if 0 ≥ 20 then (some true) else (spec_VerLong.l0 k x0 0 (wrap64 (x4 + 1)))))) else (none)) else (some false)
def spec_VerLong.f (k : Nat) (a0 : ByteArray) : Option (Bool) := spec_VerLong.l0 k a0 0 0
theorem spec_VerLong.mono_l : ∀ k, (∀ y0 y1 y2, LeO (spec_VerLong.l0 k y0 y1 y2) (spec_VerLong.l0 (k + 1) y0 y1 y2))
 | 0 => fun _ _ _ r h => by simp [spec_VerLong.l0] at h
 | k + 1 => by
  have ih0 := spec_VerLong.mono_l k
  ·
   intro y0 y1 y2
   unfold spec_VerLong.l0
   repeat' first
   | (with_reducible exact ih0 _ _ _)
   | (with_reducible exact LeO.refl _)
   | (with_reducible exact LeO.none _)
   | (with_reducible refine LeO.ite ?_ ?_)
   | (with_reducible refine LeO.bind ?_ (fun _ => ?_))
   | exact ih0 _ _ _
   | exact LeO.none _
   | refine LeO.ite ?_ ?_
   | refine LeO.bind ?_ (fun _ => ?_)
theorem spec_VerLong.mono : ∀ a0 k, LeO (spec_VerLong.f k a0) (spec_VerLong.f (k + 1) a0) := by
 intro a0 k
 have ih0 := spec_VerLong.mono_l k
 unfold spec_VerLong.f
 repeat' first
   | (with_reducible exact ih0 _ _ _)
   | (with_reducible exact LeO.refl _)
   | (with_reducible exact LeO.none _)
   | (with_reducible refine LeO.ite ?_ ?_)
   | (with_reducible refine LeO.bind ?_ (fun _ => ?_))
   | exact ih0 _ _ _
   | exact LeO.none _
   | refine LeO.ite ?_ ?_
   | refine LeO.bind ?_ (fun _ => ?_)
set_option maxHeartbeats 8000000 in
set_option maxRecDepth 100000 in
theorem spec_VerLong.calls (k : Nat) (a0 : ByteArray) (r : Bool) (w : World) (h : spec_VerLong.f k a0 = some r) :
  Calls Tryd.prog 12 #[.string a0] w fun e w' => e = .returned (.bool r) ∧ Drawn0 w w' := by
 have H : (spec_VerLong.l0 k a0 0 0) = some r := h
 clear h
 have H' := aM_ H
 clear H
 go_enter Tryd.func12, Tryd.ntmps12
 go_wp2
 go_loopg [3, 4] k (fun kq v3 v4 w' => ∃ (x3_1 : Int) (x4_1 : Int), v3 = .int .i64 x3_1 ∧ v4 = .int .i64 x4_1 ∧ Aside0 (spec_VerLong.l0 kq a0 x3_1 x4_1 = some r) ∧ Aside0 (kq ≤ k) ∧ Drawn0 w w')
 case atStart => exact ⟨(0), (0), (by first | rfl | (simp; done) | (simp [*]; done)), (by first | rfl | (simp; done) | (simp [*]; done)), H', ⟨Nat.le_refl _⟩, by repeat (first | exact Drawn0.refl _ | apply Drawn0.step)⟩
 case round =>
  clear H'
  try clear c1
  obtain ⟨x3_1, x4_1, rfl, rfl, HA, HK1, ⟨m1, rfl⟩⟩ := hrel
  cases gk with
  | zero => exact absurd HA.out (by simp [spec_VerLong.l0])
  | succ k1 =>
   have H := HA.out
   clear HA
   simp only [spec_VerLong.l0] at H
   by_cases c2 : x4_1 < (a0.size : Int)
   ·
    rw [if_pos c2] at H
    have c2b0 : decide (x4_1 < (a0.size : Int)) = true := decide_eq_true c2
    clear c2
    by_cases c3 : 0 ≤ x4_1
    ·
     rw [if_pos c3] at H
     have c3b0 : decide (0 ≤ x4_1) = true := decide_eq_true c3
     clear c3
     replace H := Option.bind_eq_some_iff.mp H
     obtain ⟨t121, A50, H⟩ := H
     replace H : (if t121 = true then (if (wrap64 (x3_1 + 1)) ≥ 20 then (some true) else (spec_VerLong.l0 k1 a0 (wrap64 (x3_1 + 1)) (wrap64 (x4_1 + 1)))) else (if 0 ≥ 20 then (some true) else (spec_VerLong.l0 k1 a0 0 (wrap64 (x4_1 + 1))))) = some r := H
     have A5 := aM_ A50
     clear A50
     by_cases c6 : t121 = true
     ·
      subst c6
      have H1 : (if (wrap64 (x3_1 + 1)) ≥ 20 then (some true) else (spec_VerLong.l0 k1 a0 (wrap64 (x3_1 + 1)) (wrap64 (x4_1 + 1)))) = some r := by rw [if_pos rfl] at H; exact H
      clear H
      have H := H1
      clear H1
      by_cases c7 : (wrap64 (x3_1 + 1)) ≥ 20
      ·
       rw [if_pos c7] at H
       have c7b0 : decide (20 ≤ (wrap64 (x3_1 + 1))) = true := decide_eq_true c7
       clear c7
       obtain rfl := Option.some.inj H
       have p4 : 0 ≤ (x4_1 : Int) := of_decide_eq_true (by first | (with_reducible assumption) | assumption)
       have q4 : x4_1 < (a0.size : Int) := of_decide_eq_true (by first | (with_reducible assumption) | assumption)
       have hx4 := bt_at a0 x4_1
       replace p4 := eq_true p4
       replace q4 := eq_true q4
       go_wp2_with (first | ((with_reducible refine gate_callee (f := 32) rfl ?_); refine goesL_ (some 16) rfl rfl Tryd.func32 (by kernel_rfl) rfl #[.int .u8 (bt a0 x4_1)] rfl (by (try simp only [List.map_toArray, List.map_cons, List.map_nil]); first | done | rfl | (simp only [List.length_drop, List.length_take]; rfl)) ?_; (with_reducible refine (spec_verDigit.calls (bt a0 x4_1) true _ A5.out).mono ?_); rintro e w' ⟨rfl, ⟨nd, rfl⟩⟩; refine ⟨_, rfl, ?_⟩))
       go_ret
       exact ⟨by first | rfl | (simp; done) | (simp [*]; done), by repeat (first | exact Drawn0.refl _ | apply Drawn0.step)⟩
      ·
       rw [if_neg c7] at H
       have c7b0 : decide (20 ≤ (wrap64 (x3_1 + 1))) = false := decide_eq_false c7
       clear c7
       have H' := aM_ H
       clear H
       have p4 : 0 ≤ (x4_1 : Int) := of_decide_eq_true (by first | (with_reducible assumption) | assumption)
       have q4 : x4_1 < (a0.size : Int) := of_decide_eq_true (by first | (with_reducible assumption) | assumption)
       have hx4 := bt_at a0 x4_1
       replace p4 := eq_true p4
       replace q4 := eq_true q4
       go_wp2_with (first | ((with_reducible refine gate_callee (f := 32) rfl ?_); refine goesL_ (some 16) rfl rfl Tryd.func32 (by kernel_rfl) rfl #[.int .u8 (bt a0 x4_1)] rfl (by (try simp only [List.map_toArray, List.map_cons, List.map_nil]); first | done | rfl | (simp only [List.length_drop, List.length_take]; rfl)) ?_; (with_reducible refine (spec_verDigit.calls (bt a0 x4_1) true _ A5.out).mono ?_); rintro e w' ⟨rfl, ⟨nd, rfl⟩⟩; refine ⟨_, rfl, ?_⟩))
       go_roundg k1
       case measure => have := HK1.out; omega
       case rel => exact ⟨(wrap64 (x3_1 + 1)), (wrap64 (x4_1 + 1)), (by first | rfl | (simp; done) | (simp [*]; done)), (by first | rfl | (simp; done) | (simp [*]; done)), H', ⟨by have := HK1.out; omega⟩, by repeat (first | exact Drawn0.refl _ | apply Drawn0.step)⟩
     ·
      replace c6 := Bool.eq_false_iff.mpr c6
      subst c6
      have H1 : (if 0 ≥ 20 then (some true) else (spec_VerLong.l0 k1 a0 0 (wrap64 (x4_1 + 1)))) = some r := by rw [if_neg (show ¬ (false = true) by decide)] at H; exact H
      clear H
      have H := H1
      clear H1
      by_cases c8 : 0 ≥ 20
      · exact absurd c8 (by decide)
      ·
       rw [if_neg c8] at H
       have c8b0 : decide (20 ≤ 0) = false := decide_eq_false c8
       clear c8
       have H' := aM_ H
       clear H
       have p4 : 0 ≤ (x4_1 : Int) := of_decide_eq_true (by first | (with_reducible assumption) | assumption)
       have q4 : x4_1 < (a0.size : Int) := of_decide_eq_true (by first | (with_reducible assumption) | assumption)
       have hx4 := bt_at a0 x4_1
       replace p4 := eq_true p4
       replace q4 := eq_true q4
       go_wp2_with (first | ((with_reducible refine gate_callee (f := 32) rfl ?_); refine goesL_ (some 16) rfl rfl Tryd.func32 (by kernel_rfl) rfl #[.int .u8 (bt a0 x4_1)] rfl (by (try simp only [List.map_toArray, List.map_cons, List.map_nil]); first | done | rfl | (simp only [List.length_drop, List.length_take]; rfl)) ?_; (with_reducible refine (spec_verDigit.calls (bt a0 x4_1) false _ A5.out).mono ?_); rintro e w' ⟨rfl, ⟨nd, rfl⟩⟩; refine ⟨_, rfl, ?_⟩))
       go_roundg k1
       case measure => have := HK1.out; omega
       case rel => exact ⟨(0), (wrap64 (x4_1 + 1)), (by first | rfl | (simp; done) | (simp [*]; done)), (by first | rfl | (simp; done) | (simp [*]; done)), H', ⟨by have := HK1.out; omega⟩, by repeat (first | exact Drawn0.refl _ | apply Drawn0.step)⟩
    ·
     rw [if_neg c3] at H
     exact absurd H (by simp)
   ·
    rw [if_neg c2] at H
    have c2b0 : decide (x4_1 < (a0.size : Int)) = false := decide_eq_false c2
    clear c2
    obtain rfl := Option.some.inj H
    go_wp2
    go_ret
    exact ⟨by first | rfl | (simp; done) | (simp [*]; done), by repeat (first | exact Drawn0.refl _ | apply Drawn0.step)⟩

/-! ### spec_verFields: function 37 -/
mutual
def spec_verFields.l0 : Nat → ByteArray → List ByteArray → Option (List ByteArray × ByteArray)
 | 0, _, _ => none
 | k + 1, x0, x4 => spec_verFields.l1 k x0 x4 0
def spec_verFields.j2 : Nat → ByteArray → List ByteArray → Int → Option (List ByteArray × ByteArray)
 | 0, _, _, _ => none
 | k + 1, x0, x4, x5 => if x5 = 0 then (some (x4, x0)) else (if 0 ≤ x5 then (if x5 ≤ (x0.size : Int) then (if x4.length < 8796093022208 then ((some (x4 ++ [x0.extract 0 (x5 : Int).toNat] : List ByteArray)).bind fun y123 => (if ((x0.extract (x5 : Int).toNat x0.size).size : Int) < 2 then (some (y123, x0.extract (x5 : Int).toNat x0.size)) else (if 0 < ((x0.extract (x5 : Int).toNat x0.size).size : Int) then (if (bt (x0.extract (x5 : Int).toNat x0.size) 0) = 46 then (if 1 < ((x0.extract (x5 : Int).toNat x0.size).size : Int) then ((spec_verDigit.f (bt (x0.extract (x5 : Int).toNat x0.size) 1)).bind fun t126 => (if t126 = true then (if 1 ≤ ((x0.extract (x5 : Int).toNat x0.size).size : Int) then (spec_verFields.l0 k ((x0.extract (x5 : Int).toNat x0.size).extract 1 (x0.extract (x5 : Int).toNat x0.size).size) y123) else (none)) else (some (y123, x0.extract (x5 : Int).toNat x0.size)))) else (none)) else (some (y123, x0.extract (x5 : Int).toNat x0.size))) else (none)))) else (none)) else (none)) else (none))
def spec_verFields.l1 : Nat → ByteArray → List ByteArray → Int → Option (List ByteArray × ByteArray)
 | 0, _, _, _ => none
 | k + 1, x0, x4, x5 => if x5 < (x0.size : Int) then (if 0 ≤ x5 then ((spec_verDigit.f (bt x0 x5)).bind fun t122 => (if t122 = true then (spec_verFields.l1 k x0 x4 (wrap64 (x5 + 1))) else (spec_verFields.j2 k x0 x4 x5))) else (none)) else (spec_verFields.j2 k x0 x4 x5)
end
def spec_verFields.f (k : Nat) (a0 : ByteArray) : Option (List ByteArray × ByteArray) := spec_verFields.l0 k a0 ([] : List ByteArray)
theorem spec_verFields.mono_l : ∀ k, (∀ y0 y1, LeO (spec_verFields.l0 k y0 y1) (spec_verFields.l0 (k + 1) y0 y1)) ∧ (∀ y0 y1 y2, LeO (spec_verFields.j2 k y0 y1 y2) (spec_verFields.j2 (k + 1) y0 y1 y2)) ∧ (∀ y0 y1 y2, LeO (spec_verFields.l1 k y0 y1 y2) (spec_verFields.l1 (k + 1) y0 y1 y2))
 | 0 => ⟨fun _ _ r h => by simp [spec_verFields.l0] at h, fun _ _ _ r h => by simp [spec_verFields.j2] at h, fun _ _ _ r h => by simp [spec_verFields.l1] at h⟩
 | k + 1 => by
  obtain ⟨ih0, ih1, ih2⟩ := spec_verFields.mono_l k
  refine ⟨?_, ?_, ?_⟩
  ·
   intro y0 y1
   unfold spec_verFields.l0
   repeat' first
   | (with_reducible exact ih0 _ _)
   | (with_reducible exact ih1 _ _ _)
   | (with_reducible exact ih2 _ _ _)
   | (with_reducible exact LeO.refl _)
   | (with_reducible exact LeO.none _)
   | (with_reducible refine LeO.ite ?_ ?_)
   | (with_reducible refine LeO.bind ?_ (fun _ => ?_))
   | exact ih0 _ _
   | exact ih1 _ _ _
   | exact ih2 _ _ _
   | exact LeO.none _
   | refine LeO.ite ?_ ?_
   | refine LeO.bind ?_ (fun _ => ?_)
  ·
   intro y0 y1 y2
   unfold spec_verFields.j2
   repeat' first
   | (with_reducible exact ih0 _ _)
   | (with_reducible exact ih1 _ _ _)
   | (with_reducible exact ih2 _ _ _)
   | (with_reducible exact LeO.refl _)
   | (with_reducible exact LeO.none _)
   | (with_reducible refine LeO.ite ?_ ?_)
   | (with_reducible refine LeO.bind ?_ (fun _ => ?_))
   | exact ih0 _ _
   | exact ih1 _ _ _
   | exact ih2 _ _ _
   | exact LeO.none _
   | refine LeO.ite ?_ ?_
   | refine LeO.bind ?_ (fun _ => ?_)
  ·
   intro y0 y1 y2
   unfold spec_verFields.l1
   repeat' first
   | (with_reducible exact ih0 _ _)
   | (with_reducible exact ih1 _ _ _)
   | (with_reducible exact ih2 _ _ _)
   | (with_reducible exact LeO.refl _)
   | (with_reducible exact LeO.none _)
   | (with_reducible refine LeO.ite ?_ ?_)
   | (with_reducible refine LeO.bind ?_ (fun _ => ?_))
   | exact ih0 _ _
   | exact ih1 _ _ _
   | exact ih2 _ _ _
   | exact LeO.none _
   | refine LeO.ite ?_ ?_
   | refine LeO.bind ?_ (fun _ => ?_)
theorem spec_verFields.mono : ∀ a0 k, LeO (spec_verFields.f k a0) (spec_verFields.f (k + 1) a0) := by
 intro a0 k
 obtain ⟨ih0, ih1, ih2⟩ := spec_verFields.mono_l k
 unfold spec_verFields.f
 repeat' first
   | (with_reducible exact ih0 _ _)
   | (with_reducible exact ih1 _ _ _)
   | (with_reducible exact ih2 _ _ _)
   | (with_reducible exact LeO.refl _)
   | (with_reducible exact LeO.none _)
   | (with_reducible refine LeO.ite ?_ ?_)
   | (with_reducible refine LeO.bind ?_ (fun _ => ?_))
   | exact ih0 _ _
   | exact ih1 _ _ _
   | exact ih2 _ _ _
   | exact LeO.none _
   | refine LeO.ite ?_ ?_
   | refine LeO.bind ?_ (fun _ => ?_)
set_option maxHeartbeats 8000000 in
set_option maxRecDepth 100000 in
theorem spec_verFields.calls (k : Nat) (a0 : ByteArray) (r1 : List ByteArray) (r2 : ByteArray) (w : World) (h : spec_verFields.f k a0 = some (r1, r2)) :
  Calls Tryd.prog 37 #[.string a0] w fun e w' => ∃ v0_ : Value, e = .returned (.tuple #[v0_, .string r2]) ∧ Kd.R Kd.string 9 w' w.heap.size (fun _ => True) v0_ r1 ∧ Below w.heap.size w w' := by
 have HB := aM_ (Below.refl w.heap.size w)
 have H : (spec_verFields.l0 k a0 ([] : List ByteArray)) = some (r1, r2) := h
 clear h
 have H' := aM_ H
 clear H
 go_enter Tryd.func37, Tryd.ntmps37
 go_wp2
 go_loopg [0, 4] k (fun kq v0 v4 w' => ∃ (x0_1 : ByteArray) (x4_1 : List ByteArray), v0 = .string x0_1 ∧ Aside0 (spec_verFields.l0 kq x0_1 x4_1 = some (r1, r2)) ∧ Aside0 (kq ≤ k) ∧ Aside0 (Kd.R Kd.string 9 w' w.heap.size (fun _ => True) v4 x4_1) ∧ Aside0 (Below w.heap.size w w'))
 case atStart => exact ⟨(a0), (([] : List ByteArray)), (by first | rfl | (simp; done) | (simp [*]; done)), H', ⟨Nat.le_refl _⟩, ⟨by first | exact Kd.R_nil _ _ _ _ _ | exact Kd.N_nil _ _ _ _ _ | exact Kd.V_nil _ _ _ _ _ | exact Kd.Q_nil _ _ _ _ _ | exact Kd.S_nil _ _ _ _ _⟩, ⟨by repeat (first | (with_reducible first | exact HB.out | apply bB_ | apply wN_ | apply bE_) | exact HB.out)⟩⟩
 case round =>
  clear H'
  obtain ⟨x0_1, x4_1, rfl, HA, HK1, HO_4, HB⟩ := hrel
  cases gk with
  | zero => exact absurd HA.out (by simp [spec_verFields.l0])
  | succ k1 =>
   have H := HA.out
   clear HA
   simp only [spec_verFields.l0] at H
   have HC2 := aM_ H
   clear H
   go_upto_block 2 with (fail)
   go_cut [5] (fun v5 wc => ∃ (kq : Nat) (x5_1 : Int), v5 = .int .i64 x5_1 ∧ Aside0 (spec_verFields.j2 kq x0_1 x4_1 x5_1 = some (r1, r2)) ∧ Aside0 (kq ≤ k1) ∧ Aside0 (Kd.R Kd.string 9 wc w.heap.size (fun _ => True) u4 x4_1) ∧ Aside0 (Below w.heap.size w wc))
   case first =>
    have H := HC2.out
    clear HC2
    have H' := aM_ H
    clear H
    go_wp2
    go_loopg [5] k1 (fun kq v5 w' => ∃ (x5_2 : Int), v5 = .int .i64 x5_2 ∧ Aside0 (spec_verFields.l1 kq x0_1 x4_1 x5_2 = some (r1, r2)) ∧ Aside0 (kq ≤ k1) ∧ Aside0 (Kd.R Kd.string 9 w' w.heap.size (fun _ => True) u4 x4_1) ∧ Aside0 (Below w.heap.size w w'))
    case atStart => exact ⟨(0), (by first | rfl | (simp; done) | (simp [*]; done)), H', ⟨Nat.le_refl _⟩, ⟨by (with_reducible repeat (first | apply kA_ | apply kN_ | apply kD_)); exact HO_4.out⟩, ⟨by repeat (first | (with_reducible first | exact HB.out | apply bB_ | apply wN_ | apply bE_) | exact HB.out)⟩⟩
    case round =>
     clear H'
     try clear p2
     obtain ⟨x5_2, rfl, HA, HK2, HO_4, HB⟩ := hrel
     cases gk with
     | zero => exact absurd HA.out (by simp [spec_verFields.l1])
     | succ k2 =>
      have H := HA.out
      clear HA
      simp only [spec_verFields.l1] at H
      by_cases c3 : x5_2 < (x0_1.size : Int)
      ·
       rw [if_pos c3] at H
       have c3b0 : decide (x5_2 < (x0_1.size : Int)) = true := decide_eq_true c3
       clear c3
       (first | rw [c3b0] | (simp only [i64_w, i32_w]; rw [c3b0]) | skip)
       by_cases c4 : 0 ≤ x5_2
       ·
        rw [if_pos c4] at H
        have c4b0 : decide (0 ≤ x5_2) = true := decide_eq_true c4
        clear c4
        replace H := Option.bind_eq_some_iff.mp H
        obtain ⟨t122, A60, H⟩ := H
        replace H : (if t122 = true then (spec_verFields.l1 k2 x0_1 x4_1 (wrap64 (x5_2 + 1))) else (spec_verFields.j2 k2 x0_1 x4_1 x5_2)) = some (r1, r2) := H
        have A6 := aM_ A60
        clear A60
        by_cases c7 : t122 = true
        ·
         subst c7
         have H1 : (spec_verFields.l1 k2 x0_1 x4_1 (wrap64 (x5_2 + 1))) = some (r1, r2) := by rw [if_pos rfl] at H; exact H
         clear H
         have H := H1
         clear H1
         have H' := aM_ H
         clear H
         have p5 : 0 ≤ (x5_2 : Int) := of_decide_eq_true (by first | (with_reducible assumption) | assumption)
         have q5 : x5_2 < (x0_1.size : Int) := of_decide_eq_true (by first | (with_reducible assumption) | assumption)
         have hx5 := bt_at x0_1 x5_2
         replace p5 := eq_true p5
         replace q5 := eq_true q5
         go_wp2_with (first | (go_at_call 32; (with_reducible refine (spec_verDigit.calls (bt x0_1 x5_2) true _ A6.out).mono ?_); rintro e w' ⟨rfl, ⟨nd, rfl⟩⟩))
         go_roundg k2
         case measure => have := HK1.out; have := HK2.out; omega
         case rel => exact ⟨(wrap64 (x5_2 + 1)), (by first | rfl | (simp; done) | (simp [*]; done)), H', ⟨by have := HK1.out; have := HK2.out; omega⟩, ⟨by (with_reducible repeat (first | apply kA_ | apply kN_ | apply kD_)); exact HO_4.out⟩, ⟨by repeat (first | (with_reducible first | exact HB.out | apply bB_ | apply wN_ | apply bE_) | exact HB.out)⟩⟩
        ·
         replace c7 := Bool.eq_false_iff.mpr c7
         subst c7
         have H1 : (spec_verFields.j2 k2 x0_1 x4_1 x5_2) = some (r1, r2) := by rw [if_neg (show ¬ (false = true) by decide)] at H; exact H
         clear H
         have H := H1
         clear H1
         have H' := aM_ H
         clear H
         have p5 : 0 ≤ (x5_2 : Int) := of_decide_eq_true (by first | (with_reducible assumption) | assumption)
         have q5 : x5_2 < (x0_1.size : Int) := of_decide_eq_true (by first | (with_reducible assumption) | assumption)
         have hx5 := bt_at x0_1 x5_2
         replace p5 := eq_true p5
         replace q5 := eq_true q5
         go_wp2_with (first | (go_at_call 32; (with_reducible refine (spec_verDigit.calls (bt x0_1 x5_2) false _ A6.out).mono ?_); rintro e w' ⟨rfl, ⟨nd, rfl⟩⟩))
         go_meet
         case rel => exact ⟨_, (x5_2), (by first | rfl | (simp; done) | (simp [*]; done)), H', ⟨by have := HK1.out; have := HK2.out; first | omega | exact Nat.le_refl _⟩, ⟨by (with_reducible repeat (first | apply kA_ | apply kN_ | apply kD_)); exact HO_4.out⟩, ⟨by repeat (first | (with_reducible first | exact HB.out | apply bB_ | apply wN_ | apply bE_) | exact HB.out)⟩⟩
       ·
        rw [if_neg c4] at H
        exact absurd H (by simp)
      ·
       rw [if_neg c3] at H
       have c3b0 : decide (x5_2 < (x0_1.size : Int)) = false := decide_eq_false c3
       clear c3
       (first | rw [c3b0] | (simp only [i64_w, i32_w]; rw [c3b0]) | skip)
       have H' := aM_ H
       clear H
       go_wp2
       go_meet
       case rel => exact ⟨_, (x5_2), (by first | rfl | (simp; done) | (simp [*]; done)), H', ⟨by have := HK1.out; have := HK2.out; first | omega | exact Nat.le_refl _⟩, ⟨by (with_reducible repeat (first | apply kA_ | apply kN_ | apply kD_)); exact HO_4.out⟩, ⟨by repeat (first | (with_reducible first | exact HB.out | apply bB_ | apply wN_ | apply bE_) | exact HB.out)⟩⟩
   case rest =>
    clear HC2
    try clear p2
    try clear c3
    try clear c3b0
    try clear c4
    try clear c4b0
    try clear p5
    try clear q5
    try clear hx5
    try clear p6
    try clear c7
    try clear p2
    try clear p5
    try clear q5
    obtain ⟨kq, x5_1, rfl, HA, HJ1, HO_4, HB⟩ := hcut
    cases kq with
    | zero => exact absurd HA.out (by simp [spec_verFields.j2])
    | succ kj1 =>
     have H := HA.out
     clear HA
     simp only [spec_verFields.j2] at H
     by_cases c8 : x5_1 = 0
     ·
      rw [if_pos c8] at H
      have c8b0 : (x5_1 == 0) = true := beq_iff_eq.mpr c8
      have c8b1 : (x5_1 != 0) = false := bne_eq_false_iff_eq.mpr c8
      clear c8
      simp only [Option.some.injEq, Prod.mk.injEq] at H
      obtain ⟨rfl, rfl⟩ := H
      go_wp2
      go_ret2
      exact ⟨_, by first | rfl | (simp [errW_none, errW_some] <;> rfl) | (simp [*, errW_none, errW_some] <;> rfl), by (with_reducible repeat (first | apply kA_ | apply kN_ | apply kD_)); exact HO_4.out, by repeat (first | (with_reducible first | exact HB.out | apply bB_ | apply wN_ | apply bE_) | exact HB.out)⟩
     ·
      rw [if_neg c8] at H
      have c8b0 : (x5_1 == 0) = false := beq_eq_false_iff_ne.mpr c8
      have c8b1 : (x5_1 != 0) = true := bne_iff_ne.mpr c8
      by_cases c9 : 0 ≤ x5_1
      ·
       rw [if_pos c9] at H
       have c9b0 := eq_true c9
       have c9b1 : decide (0 ≤ x5_1) = true := decide_eq_true c9
       clear c9
       by_cases c10 : x5_1 ≤ (x0_1.size : Int)
       ·
        rw [if_pos c10] at H
        have c10b0 := eq_true c10
        have c10b1 : decide (x5_1 ≤ (x0_1.size : Int)) = true := decide_eq_true c10
        clear c10
        by_cases c11 : x4_1.length < 8796093022208
        ·
         rw [if_pos c11] at H
         have LMc11 := aM_ c11
         clear c11
         obtain ⟨y123, hy123⟩ : ∃ y_ : List ByteArray, y_ = (x4_1 ++ [x0_1.extract 0 (x5_1 : Int).toNat]) := ⟨_, rfl⟩
         replace H : (if ((x0_1.extract (x5_1 : Int).toNat x0_1.size).size : Int) < 2 then (some (y123, x0_1.extract (x5_1 : Int).toNat x0_1.size)) else (if 0 < ((x0_1.extract (x5_1 : Int).toNat x0_1.size).size : Int) then (if (bt (x0_1.extract (x5_1 : Int).toNat x0_1.size) 0) = 46 then (if 1 < ((x0_1.extract (x5_1 : Int).toNat x0_1.size).size : Int) then ((spec_verDigit.f (bt (x0_1.extract (x5_1 : Int).toNat x0_1.size) 1)).bind fun t126 => (if t126 = true then (if 1 ≤ ((x0_1.extract (x5_1 : Int).toNat x0_1.size).size : Int) then (spec_verFields.l0 kj1 ((x0_1.extract (x5_1 : Int).toNat x0_1.size).extract 1 (x0_1.extract (x5_1 : Int).toNat x0_1.size).size) y123) else (none)) else (some (y123, x0_1.extract (x5_1 : Int).toNat x0_1.size)))) else (none)) else (some (y123, x0_1.extract (x5_1 : Int).toNat x0_1.size))) else (none))) = some (r1, r2) := by first | (rw [hy123]; with_reducible exact H) | (have H2_ := (Option.bind_some _ _).symm.trans H; rw [hy123]; with_reducible exact H2_) | (have H2_ := (Option.bind_some _ _).symm.trans H; with_reducible exact H2_) | with_reducible exact H | (rw [hy123]; exact H) | exact H
         have Ny123 := aM_ hy123
         clear hy123
         have c12b0 := eq_true (of_decide_eq_true (by first | (with_reducible assumption) | assumption) : 0 ≤ x5_1)
         have c13b0 := eq_true (of_decide_eq_true (by first | (with_reducible assumption) | assumption) : x5_1 ≤ (x0_1.size : Int))
         by_cases c14 : ((x0_1.extract (x5_1 : Int).toNat x0_1.size).size : Int) < 2
         ·
          rw [if_pos c14] at H
          have c14b0 : decide (((x0_1.extract (x5_1 : Int).toNat x0_1.size).size : Int) < 2) = true := decide_eq_true c14
          have c14z := of_decide_eq_true c14b0
          (try simp only [ByteArray.size_extract, Nat.min_self] at c14z)
          have c14b1 : decide ((x0_1.extract (x5_1 : Int).toNat x0_1.size).size < 2) = true := decide_eq_true (by omega)
          clear c14
          simp only [Option.some.injEq, Prod.mk.injEq] at H
          obtain ⟨rfl, rfl⟩ := H
          go_wp2_with (first | ((with_reducible refine gate_builtin (b := .append) (xs := #[.tmp 22, .tmp 26]) rfl ?_); at_builtin; refine Kd.R_append Kd.string (w0 := w) w.heap.size rfl (.tmp 22) (.tmp 26) 49 9 (.string ⟨#[]⟩) 16 rfl Tryd.underlying49 info9 rfl (by decide) (by omega) u4 x4_1 (x0_1.extract 0 (x5_1 : Int).toNat) [.string (x0_1.extract 0 (x5_1 : Int).toNat)] (fun _ => True) (fun _ => False) rfl rfl ?aP (fun _ hk => hk.elim) ?aF ?aO ?aB ?aS ?aL ?_; (case aP => exact rfl); (case aB => exact (by repeat (first | (with_reducible first | exact HB.out | apply bB_ | apply wN_ | apply bE_) | exact HB.out))); (case aF => exact (fun _ _ => trivial)); (case aO => exact (by (with_reducible repeat (first | apply kA_ | apply kN_ | apply kD_)); exact HO_4.out)); (case aS => exact (below_size (by repeat (first | (with_reducible first | exact HB.out | apply bB_ | apply wN_ | apply bE_) | exact HB.out)))); (case aL => have := LMc11.out; omega); intro v124 w15 ho hb hg hat; rw [← Ny123.out] at ho; have n0_ := aM_ (hb); have n1_ := aM_ (ho); clear HB; clear HO_4; have HB := n0_; have HO125 := n1_; clear n0_ n1_; clear ho hb hg hat))
          go_ret2
          exact ⟨_, by first | rfl | (simp [errW_none, errW_some] <;> rfl) | (simp [*, errW_none, errW_some] <;> rfl), by (with_reducible repeat (first | apply kA_ | apply kN_ | apply kD_)); exact HO125.out, by repeat (first | (with_reducible first | exact HB.out | apply bB_ | apply wN_ | apply bE_) | exact HB.out)⟩
         ·
          rw [if_neg c14] at H
          have c14b0 : decide (((x0_1.extract (x5_1 : Int).toNat x0_1.size).size : Int) < 2) = false := decide_eq_false c14
          have c14z := of_decide_eq_false c14b0
          (try simp only [ByteArray.size_extract, Nat.min_self] at c14z)
          have c14b1 : decide ((x0_1.extract (x5_1 : Int).toNat x0_1.size).size < 2) = false := decide_eq_false (by omega)
          clear c14
          by_cases c16 : 0 < ((x0_1.extract (x5_1 : Int).toNat x0_1.size).size : Int)
          ·
           rw [if_pos c16] at H
           have c16b0 : decide (0 < ((x0_1.extract (x5_1 : Int).toNat x0_1.size).size : Int)) = true := decide_eq_true c16
           have c16z := of_decide_eq_true c16b0
           (try simp only [ByteArray.size_extract, Nat.min_self] at c16z)
           (try have c16y : 0 < x0_1.size - x5_1.toNat := by omega)
           (try have c16x : x5_1.toNat < x0_1.size := by omega)
           have c16b1 : decide (0 < (x0_1.extract (x5_1 : Int).toNat x0_1.size).size) = true := decide_eq_true (by omega)
           clear c16
           by_cases c18 : (bt (x0_1.extract (x5_1 : Int).toNat x0_1.size) 0) = 46
           ·
            rw [if_pos c18] at H
            have c18b0 : ((bt (x0_1.extract (x5_1 : Int).toNat x0_1.size) 0) == 46) = true := beq_iff_eq.mpr c18
            have c18b1 : ((bt (x0_1.extract (x5_1 : Int).toNat x0_1.size) 0) != 46) = false := bne_eq_false_iff_eq.mpr c18
            clear c18
            by_cases c19 : 1 < ((x0_1.extract (x5_1 : Int).toNat x0_1.size).size : Int)
            ·
             rw [if_pos c19] at H
             have c19b0 : decide (1 < ((x0_1.extract (x5_1 : Int).toNat x0_1.size).size : Int)) = true := decide_eq_true c19
             have c19z := of_decide_eq_true c19b0
             (try simp only [ByteArray.size_extract, Nat.min_self] at c19z)
             have c19b1 : decide (1 < (x0_1.extract (x5_1 : Int).toNat x0_1.size).size) = true := decide_eq_true (by omega)
             clear c19
             replace H := Option.bind_eq_some_iff.mp H
             obtain ⟨t126, A210, H⟩ := H
             replace H : (if t126 = true then (if 1 ≤ ((x0_1.extract (x5_1 : Int).toNat x0_1.size).size : Int) then (spec_verFields.l0 kj1 ((x0_1.extract (x5_1 : Int).toNat x0_1.size).extract 1 (x0_1.extract (x5_1 : Int).toNat x0_1.size).size) y123) else (none)) else (some (y123, x0_1.extract (x5_1 : Int).toNat x0_1.size))) = some (r1, r2) := H
             have A21 := aM_ A210
             clear A210
             by_cases c22 : t126 = true
             ·
              subst c22
              have H1 : (if 1 ≤ ((x0_1.extract (x5_1 : Int).toNat x0_1.size).size : Int) then (spec_verFields.l0 kj1 ((x0_1.extract (x5_1 : Int).toNat x0_1.size).extract 1 (x0_1.extract (x5_1 : Int).toNat x0_1.size).size) y123) else (none)) = some (r1, r2) := by rw [if_pos rfl] at H; exact H
              clear H
              have H := H1
              clear H1
              by_cases c23 : 1 ≤ ((x0_1.extract (x5_1 : Int).toNat x0_1.size).size : Int)
              ·
               rw [if_pos c23] at H
               have c23b0 := eq_true c23
               have c23b1 : decide (1 ≤ ((x0_1.extract (x5_1 : Int).toNat x0_1.size).size : Int)) = true := decide_eq_true c23
               clear c23
               have H' := aM_ H
               clear H
               go_wp2_with (first | ((with_reducible refine gate_builtin (b := .append) (xs := #[.tmp 22, .tmp 26]) rfl ?_); at_builtin; refine Kd.R_append Kd.string (w0 := w) w.heap.size rfl (.tmp 22) (.tmp 26) 49 9 (.string ⟨#[]⟩) 16 rfl Tryd.underlying49 info9 rfl (by decide) (by omega) u4 x4_1 (x0_1.extract 0 (x5_1 : Int).toNat) [.string (x0_1.extract 0 (x5_1 : Int).toNat)] (fun _ => True) (fun _ => False) rfl rfl ?aP (fun _ hk => hk.elim) ?aF ?aO ?aB ?aS ?aL ?_; (case aP => exact rfl); (case aB => exact (by repeat (first | (with_reducible first | exact HB.out | apply bB_ | apply wN_ | apply bE_) | exact HB.out))); (case aF => exact (fun _ _ => trivial)); (case aO => exact (by (with_reducible repeat (first | apply kA_ | apply kN_ | apply kD_)); exact HO_4.out)); (case aS => exact (below_size (by repeat (first | (with_reducible first | exact HB.out | apply bB_ | apply wN_ | apply bE_) | exact HB.out)))); (case aL => have := LMc11.out; omega); intro v124 w24 ho hb hg hat; rw [← Ny123.out] at ho; have n0_ := aM_ (hb); have n1_ := aM_ (ho); clear HB; clear HO_4; have HB := n0_; have HO125 := n1_; clear n0_ n1_; clear ho hb hg hat; have p17 : 0 ≤ (0 : Int) := (by omega); have q17 : 0 < (x0_1.extract (x5_1 : Int).toNat x0_1.size).size := (by have : (0 : Int) < ((x0_1.extract (x5_1 : Int).toNat x0_1.size).size : Int) := of_decide_eq_true (by first | (with_reducible assumption) | assumption); omega); have hx17 : ∀ h : 0 < (x0_1.extract (x5_1 : Int).toNat x0_1.size).size, (((x0_1.extract (x5_1 : Int).toNat x0_1.size)[0]'h).toNat : Int) = bt (x0_1.extract (x5_1 : Int).toNat x0_1.size) 0 := bt_at (x0_1.extract (x5_1 : Int).toNat x0_1.size) 0; clear p17; have qi17 : (0 < ((x0_1.extract (x5_1 : Int).toNat x0_1.size).size : Int)) = True := eq_true (of_decide_eq_true (by first | (with_reducible assumption) | assumption)); replace q17 := eq_true q17; have p20 : 0 ≤ (1 : Int) := (by omega); have q20 : 1 < (x0_1.extract (x5_1 : Int).toNat x0_1.size).size := (by have : (1 : Int) < ((x0_1.extract (x5_1 : Int).toNat x0_1.size).size : Int) := of_decide_eq_true (by first | (with_reducible assumption) | assumption); omega); have hx20 : ∀ h : 1 < (x0_1.extract (x5_1 : Int).toNat x0_1.size).size, (((x0_1.extract (x5_1 : Int).toNat x0_1.size)[1]'h).toNat : Int) = bt (x0_1.extract (x5_1 : Int).toNat x0_1.size) 1 := bt_at (x0_1.extract (x5_1 : Int).toNat x0_1.size) 1; clear p20; have qi20 : (1 < ((x0_1.extract (x5_1 : Int).toNat x0_1.size).size : Int)) = True := eq_true (of_decide_eq_true (by first | (with_reducible assumption) | assumption)); replace q20 := eq_true q20) | (go_at_call 32; (with_reducible refine (spec_verDigit.calls (bt (x0_1.extract (x5_1 : Int).toNat x0_1.size) 1) true _ A21.out).mono ?_); rintro e w' ⟨rfl, ⟨nd, rfl⟩⟩))
               go_roundg kj1
               case measure => have := HK1.out; have := HJ1.out; omega
               case rel => exact ⟨((x0_1.extract (x5_1 : Int).toNat x0_1.size).extract 1 (x0_1.extract (x5_1 : Int).toNat x0_1.size).size), (y123), (by first | rfl | (simp; done) | (simp [*]; done)), H', ⟨by have := HK1.out; have := HJ1.out; omega⟩, ⟨by (with_reducible repeat (first | apply kA_ | apply kN_ | apply kD_)); exact HO125.out⟩, ⟨by repeat (first | (with_reducible first | exact HB.out | apply bB_ | apply wN_ | apply bE_) | exact HB.out)⟩⟩
              ·
               rw [if_neg c23] at H
               exact absurd H (by simp)
             ·
              replace c22 := Bool.eq_false_iff.mpr c22
              subst c22
              have H1 : (some (y123, x0_1.extract (x5_1 : Int).toNat x0_1.size)) = some (r1, r2) := by rw [if_neg (show ¬ (false = true) by decide)] at H; exact H
              clear H
              have H := H1
              clear H1
              simp only [Option.some.injEq, Prod.mk.injEq] at H
              obtain ⟨rfl, rfl⟩ := H
              go_wp2_with (first | ((with_reducible refine gate_builtin (b := .append) (xs := #[.tmp 22, .tmp 26]) rfl ?_); at_builtin; refine Kd.R_append Kd.string (w0 := w) w.heap.size rfl (.tmp 22) (.tmp 26) 49 9 (.string ⟨#[]⟩) 16 rfl Tryd.underlying49 info9 rfl (by decide) (by omega) u4 x4_1 (x0_1.extract 0 (x5_1 : Int).toNat) [.string (x0_1.extract 0 (x5_1 : Int).toNat)] (fun _ => True) (fun _ => False) rfl rfl ?aP (fun _ hk => hk.elim) ?aF ?aO ?aB ?aS ?aL ?_; (case aP => exact rfl); (case aB => exact (by repeat (first | (with_reducible first | exact HB.out | apply bB_ | apply wN_ | apply bE_) | exact HB.out))); (case aF => exact (fun _ _ => trivial)); (case aO => exact (by (with_reducible repeat (first | apply kA_ | apply kN_ | apply kD_)); exact HO_4.out)); (case aS => exact (below_size (by repeat (first | (with_reducible first | exact HB.out | apply bB_ | apply wN_ | apply bE_) | exact HB.out)))); (case aL => have := LMc11.out; omega); intro v124 w25 ho hb hg hat; rw [← Ny123.out] at ho; have n0_ := aM_ (hb); have n1_ := aM_ (ho); clear HB; clear HO_4; have HB := n0_; have HO125 := n1_; clear n0_ n1_; clear ho hb hg hat; have p17 : 0 ≤ (0 : Int) := (by omega); have q17 : 0 < (x0_1.extract (x5_1 : Int).toNat x0_1.size).size := (by have : (0 : Int) < ((x0_1.extract (x5_1 : Int).toNat x0_1.size).size : Int) := of_decide_eq_true (by first | (with_reducible assumption) | assumption); omega); have hx17 : ∀ h : 0 < (x0_1.extract (x5_1 : Int).toNat x0_1.size).size, (((x0_1.extract (x5_1 : Int).toNat x0_1.size)[0]'h).toNat : Int) = bt (x0_1.extract (x5_1 : Int).toNat x0_1.size) 0 := bt_at (x0_1.extract (x5_1 : Int).toNat x0_1.size) 0; clear p17; have qi17 : (0 < ((x0_1.extract (x5_1 : Int).toNat x0_1.size).size : Int)) = True := eq_true (of_decide_eq_true (by first | (with_reducible assumption) | assumption)); replace q17 := eq_true q17; have p20 : 0 ≤ (1 : Int) := (by omega); have q20 : 1 < (x0_1.extract (x5_1 : Int).toNat x0_1.size).size := (by have : (1 : Int) < ((x0_1.extract (x5_1 : Int).toNat x0_1.size).size : Int) := of_decide_eq_true (by first | (with_reducible assumption) | assumption); omega); have hx20 : ∀ h : 1 < (x0_1.extract (x5_1 : Int).toNat x0_1.size).size, (((x0_1.extract (x5_1 : Int).toNat x0_1.size)[1]'h).toNat : Int) = bt (x0_1.extract (x5_1 : Int).toNat x0_1.size) 1 := bt_at (x0_1.extract (x5_1 : Int).toNat x0_1.size) 1; clear p20; have qi20 : (1 < ((x0_1.extract (x5_1 : Int).toNat x0_1.size).size : Int)) = True := eq_true (of_decide_eq_true (by first | (with_reducible assumption) | assumption)); replace q20 := eq_true q20) | (go_at_call 32; (with_reducible refine (spec_verDigit.calls (bt (x0_1.extract (x5_1 : Int).toNat x0_1.size) 1) false _ A21.out).mono ?_); rintro e w' ⟨rfl, ⟨nd, rfl⟩⟩))
              go_ret2
              exact ⟨_, by first | rfl | (simp [errW_none, errW_some] <;> rfl) | (simp [*, errW_none, errW_some] <;> rfl), by (with_reducible repeat (first | apply kA_ | apply kN_ | apply kD_)); exact HO125.out, by repeat (first | (with_reducible first | exact HB.out | apply bB_ | apply wN_ | apply bE_) | exact HB.out)⟩
            ·
             rw [if_neg c19] at H
             exact absurd H (by simp)
           ·
            rw [if_neg c18] at H
            have c18b0 : ((bt (x0_1.extract (x5_1 : Int).toNat x0_1.size) 0) == 46) = false := beq_eq_false_iff_ne.mpr c18
            have c18b1 : ((bt (x0_1.extract (x5_1 : Int).toNat x0_1.size) 0) != 46) = true := bne_iff_ne.mpr c18
            simp only [Option.some.injEq, Prod.mk.injEq] at H
            obtain ⟨rfl, rfl⟩ := H
            go_wp2_with (first | ((with_reducible refine gate_builtin (b := .append) (xs := #[.tmp 22, .tmp 26]) rfl ?_); at_builtin; refine Kd.R_append Kd.string (w0 := w) w.heap.size rfl (.tmp 22) (.tmp 26) 49 9 (.string ⟨#[]⟩) 16 rfl Tryd.underlying49 info9 rfl (by decide) (by omega) u4 x4_1 (x0_1.extract 0 (x5_1 : Int).toNat) [.string (x0_1.extract 0 (x5_1 : Int).toNat)] (fun _ => True) (fun _ => False) rfl rfl ?aP (fun _ hk => hk.elim) ?aF ?aO ?aB ?aS ?aL ?_; (case aP => exact rfl); (case aB => exact (by repeat (first | (with_reducible first | exact HB.out | apply bB_ | apply wN_ | apply bE_) | exact HB.out))); (case aF => exact (fun _ _ => trivial)); (case aO => exact (by (with_reducible repeat (first | apply kA_ | apply kN_ | apply kD_)); exact HO_4.out)); (case aS => exact (below_size (by repeat (first | (with_reducible first | exact HB.out | apply bB_ | apply wN_ | apply bE_) | exact HB.out)))); (case aL => have := LMc11.out; omega); intro v124 w26 ho hb hg hat; rw [← Ny123.out] at ho; have n0_ := aM_ (hb); have n1_ := aM_ (ho); clear HB; clear HO_4; have HB := n0_; have HO125 := n1_; clear n0_ n1_; clear ho hb hg hat; have p17 : 0 ≤ (0 : Int) := (by omega); have q17 : 0 < (x0_1.extract (x5_1 : Int).toNat x0_1.size).size := (by have : (0 : Int) < ((x0_1.extract (x5_1 : Int).toNat x0_1.size).size : Int) := of_decide_eq_true (by first | (with_reducible assumption) | assumption); omega); have hx17 : ∀ h : 0 < (x0_1.extract (x5_1 : Int).toNat x0_1.size).size, (((x0_1.extract (x5_1 : Int).toNat x0_1.size)[0]'h).toNat : Int) = bt (x0_1.extract (x5_1 : Int).toNat x0_1.size) 0 := bt_at (x0_1.extract (x5_1 : Int).toNat x0_1.size) 0; clear p17; have qi17 : (0 < ((x0_1.extract (x5_1 : Int).toNat x0_1.size).size : Int)) = True := eq_true (of_decide_eq_true (by first | (with_reducible assumption) | assumption)); replace q17 := eq_true q17))
            go_ret2
            exact ⟨_, by first | rfl | (simp [errW_none, errW_some] <;> rfl) | (simp [*, errW_none, errW_some] <;> rfl), by (with_reducible repeat (first | apply kA_ | apply kN_ | apply kD_)); exact HO125.out, by repeat (first | (with_reducible first | exact HB.out | apply bB_ | apply wN_ | apply bE_) | exact HB.out)⟩
          ·
           rw [if_neg c16] at H
           exact absurd H (by simp)
        ·
         rw [if_neg c11] at H
         exact absurd H (by simp)
       ·
        rw [if_neg c10] at H
        exact absurd H (by simp)
      ·
       rw [if_neg c9] at H
       exact absurd H (by simp)

/-! ### spec_verWhite: function 70 -/
def spec_verWhite.f (a0 : Int) : Option (Bool) := if a0 = 32 then (some true) else (if a0 = 9 then (some true) else (if a0 = 10 then (some true) else (if a0 = 12 then (some true) else (some (a0 == 13)))))
set_option maxHeartbeats 8000000 in
set_option maxRecDepth 100000 in
theorem spec_verWhite.calls (a0 : Int) (r : Bool) (w : World) (h : spec_verWhite.f a0 = some r) :
  Calls Tryd.prog 70 #[.int .u8 a0] w fun e w' => e = .returned (.bool r) ∧ Drawn0 w w' := by
 have H : (if a0 = 32 then (some true) else (if a0 = 9 then (some true) else (if a0 = 10 then (some true) else (if a0 = 12 then (some true) else (some (a0 == 13)))))) = some r := h
 clear h
 by_cases c2 : a0 = 32
 ·
  rw [if_pos c2] at H
  have c2b0 : (a0 == 32) = true := beq_iff_eq.mpr c2
  have c2b1 : (a0 != 32) = false := bne_eq_false_iff_eq.mpr c2
  clear c2
  obtain rfl := Option.some.inj H
  go_enter Tryd.func70, Tryd.ntmps70
  go_wp2
  go_ret
  exact ⟨by first | rfl | (simp; done) | (simp [*]; done), by repeat (first | exact Drawn0.refl _ | apply Drawn0.step)⟩
 ·
  rw [if_neg c2] at H
  have c2b0 : (a0 == 32) = false := beq_eq_false_iff_ne.mpr c2
  have c2b1 : (a0 != 32) = true := bne_iff_ne.mpr c2
  by_cases c3 : a0 = 9
  ·
   rw [if_pos c3] at H
   have c3b0 : (a0 == 9) = true := beq_iff_eq.mpr c3
   have c3b1 : (a0 != 9) = false := bne_eq_false_iff_eq.mpr c3
   clear c3
   obtain rfl := Option.some.inj H
   go_enter Tryd.func70, Tryd.ntmps70
   go_wp2
   go_ret
   exact ⟨by first | rfl | (simp; done) | (simp [*]; done), by repeat (first | exact Drawn0.refl _ | apply Drawn0.step)⟩
  ·
   rw [if_neg c3] at H
   have c3b0 : (a0 == 9) = false := beq_eq_false_iff_ne.mpr c3
   have c3b1 : (a0 != 9) = true := bne_iff_ne.mpr c3
   by_cases c4 : a0 = 10
   ·
    rw [if_pos c4] at H
    have c4b0 : (a0 == 10) = true := beq_iff_eq.mpr c4
    have c4b1 : (a0 != 10) = false := bne_eq_false_iff_eq.mpr c4
    clear c4
    obtain rfl := Option.some.inj H
    go_enter Tryd.func70, Tryd.ntmps70
    go_wp2
    go_ret
    exact ⟨by first | rfl | (simp; done) | (simp [*]; done), by repeat (first | exact Drawn0.refl _ | apply Drawn0.step)⟩
   ·
    rw [if_neg c4] at H
    have c4b0 : (a0 == 10) = false := beq_eq_false_iff_ne.mpr c4
    have c4b1 : (a0 != 10) = true := bne_iff_ne.mpr c4
    by_cases c5 : a0 = 12
    ·
     rw [if_pos c5] at H
     have c5b0 : (a0 == 12) = true := beq_iff_eq.mpr c5
     have c5b1 : (a0 != 12) = false := bne_eq_false_iff_eq.mpr c5
     clear c5
     obtain rfl := Option.some.inj H
     go_enter Tryd.func70, Tryd.ntmps70
     go_wp2
     go_ret
     exact ⟨by first | rfl | (simp; done) | (simp [*]; done), by repeat (first | exact Drawn0.refl _ | apply Drawn0.step)⟩
    ·
     rw [if_neg c5] at H
     have c5b0 : (a0 == 12) = false := beq_eq_false_iff_ne.mpr c5
     have c5b1 : (a0 != 12) = true := bne_iff_ne.mpr c5
     obtain rfl := Option.some.inj H
     go_enter Tryd.func70, Tryd.ntmps70
     go_wp2
     go_ret
     exact ⟨by first | rfl | (simp; done) | (simp [*]; done), by repeat (first | exact Drawn0.refl _ | apply Drawn0.step)⟩

/-! ### spec_verAhead: function 38 -/
def spec_verAhead.l0 : Nat → ByteArray → Option (ByteArray)
 | 0, _ => none
 | k + 1, x0 => if x0.toList = ([] : List UInt8) then (some x0) else (if 0 < (x0.size : Int) then ((spec_verWhite.f (bt x0 0)).bind fun t127 => (if t127 = true then (if 1 ≤ (x0.size : Int) then (spec_verAhead.l0 k (x0.extract 1 x0.size)) else (none)) else (if (bt x0 0) = 118 then (if 1 ≤ (x0.size : Int) then (some (x0.extract 1 x0.size)) else (none)) else (some x0)))) else (none))
def spec_verAhead.f (k : Nat) (a0 : ByteArray) : Option (ByteArray) := spec_verAhead.l0 k a0
theorem spec_verAhead.mono_l : ∀ k, (∀ y0, LeO (spec_verAhead.l0 k y0) (spec_verAhead.l0 (k + 1) y0))
 | 0 => fun _ r h => by simp [spec_verAhead.l0] at h
 | k + 1 => by
  have ih0 := spec_verAhead.mono_l k
  ·
   intro y0
   unfold spec_verAhead.l0
   repeat' first
   | (with_reducible exact ih0 _)
   | (with_reducible exact LeO.refl _)
   | (with_reducible exact LeO.none _)
   | (with_reducible refine LeO.ite ?_ ?_)
   | (with_reducible refine LeO.bind ?_ (fun _ => ?_))
   | exact ih0 _
   | exact LeO.none _
   | refine LeO.ite ?_ ?_
   | refine LeO.bind ?_ (fun _ => ?_)
theorem spec_verAhead.mono : ∀ a0 k, LeO (spec_verAhead.f k a0) (spec_verAhead.f (k + 1) a0) := by
 intro a0 k
 have ih0 := spec_verAhead.mono_l k
 unfold spec_verAhead.f
 repeat' first
   | (with_reducible exact ih0 _)
   | (with_reducible exact LeO.refl _)
   | (with_reducible exact LeO.none _)
   | (with_reducible refine LeO.ite ?_ ?_)
   | (with_reducible refine LeO.bind ?_ (fun _ => ?_))
   | exact ih0 _
   | exact LeO.none _
   | refine LeO.ite ?_ ?_
   | refine LeO.bind ?_ (fun _ => ?_)
set_option maxHeartbeats 8000000 in
set_option maxRecDepth 100000 in
theorem spec_verAhead.calls (k : Nat) (a0 : ByteArray) (r : ByteArray) (w : World) (h : spec_verAhead.f k a0 = some r) :
  Calls Tryd.prog 38 #[.string a0] w fun e w' => e = .returned (.string r) ∧ Drawn0 w w' := by
 have H : (spec_verAhead.l0 k a0) = some r := h
 clear h
 have H' := aM_ H
 clear H
 go_enter Tryd.func38, Tryd.ntmps38
 go_wp2
 go_loopg [0] k (fun kq v0 w' => ∃ (x0_1 : ByteArray), v0 = .string x0_1 ∧ Aside0 (spec_verAhead.l0 kq x0_1 = some r) ∧ Aside0 (kq ≤ k) ∧ Drawn0 w w')
 case atStart => exact ⟨(a0), (by first | rfl | (simp; done) | (simp [*]; done)), H', ⟨Nat.le_refl _⟩, by repeat (first | exact Drawn0.refl _ | apply Drawn0.step)⟩
 case round =>
  clear H'
  obtain ⟨x0_1, rfl, HA, HK1, ⟨m1, rfl⟩⟩ := hrel
  cases gk with
  | zero => exact absurd HA.out (by simp [spec_verAhead.l0])
  | succ k1 =>
   have H := HA.out
   clear HA
   simp only [spec_verAhead.l0] at H
   by_cases c2 : x0_1.toList = ([] : List UInt8)
   ·
    rw [if_pos c2] at H
    have c2b0 : (x0_1.toList == ([] : List UInt8)) = true := beq_iff_eq.mpr c2
    have c2b1 : (x0_1.toList != ([] : List UInt8)) = false := bne_eq_false_iff_eq.mpr c2
    clear c2
    obtain rfl := Option.some.inj H
    go_wp2
    go_ret
    exact ⟨by first | rfl | (simp; done) | (simp [*]; done), by repeat (first | exact Drawn0.refl _ | apply Drawn0.step)⟩
   ·
    rw [if_neg c2] at H
    have c2b0 : (x0_1.toList == ([] : List UInt8)) = false := beq_eq_false_iff_ne.mpr c2
    have c2b1 : (x0_1.toList != ([] : List UInt8)) = true := bne_iff_ne.mpr c2
    by_cases c3 : 0 < (x0_1.size : Int)
    ·
     rw [if_pos c3] at H
     have c3b0 : decide (0 < (x0_1.size : Int)) = true := decide_eq_true c3
     have c3b1 : decide (0 < x0_1.size) = true := decide_eq_true (by omega)
     clear c3
     replace H := Option.bind_eq_some_iff.mp H
     obtain ⟨t127, A50, H⟩ := H
     replace H : (if t127 = true then (if 1 ≤ (x0_1.size : Int) then (spec_verAhead.l0 k1 (x0_1.extract 1 x0_1.size)) else (none)) else (if (bt x0_1 0) = 118 then (if 1 ≤ (x0_1.size : Int) then (some (x0_1.extract 1 x0_1.size)) else (none)) else (some x0_1))) = some r := H
     have A5 := aM_ A50
     clear A50
     by_cases c6 : t127 = true
     ·
      subst c6
      have H1 : (if 1 ≤ (x0_1.size : Int) then (spec_verAhead.l0 k1 (x0_1.extract 1 x0_1.size)) else (none)) = some r := by rw [if_pos rfl] at H; exact H
      clear H
      have H := H1
      clear H1
      by_cases c7 : 1 ≤ (x0_1.size : Int)
      ·
       rw [if_pos c7] at H
       have c7b0 := eq_true c7
       have c7b1 : decide (1 ≤ (x0_1.size : Int)) = true := decide_eq_true c7
       clear c7
       have H' := aM_ H
       clear H
       have p4 : 0 ≤ (0 : Int) := (by omega)
       have q4 : 0 < x0_1.size := (by have : (0 : Int) < (x0_1.size : Int) := of_decide_eq_true (by first | (with_reducible assumption) | assumption); omega)
       have hx4 : ∀ h : 0 < x0_1.size, ((x0_1[0]'h).toNat : Int) = bt x0_1 0 := bt_at x0_1 0
       clear p4
       have qi4 : (0 < (x0_1.size : Int)) = True := eq_true (of_decide_eq_true (by first | (with_reducible assumption) | assumption))
       replace q4 := eq_true q4
       go_wp2_with (first | (go_at_call 70; (with_reducible refine (spec_verWhite.calls (bt x0_1 0) true _ A5.out).mono ?_); rintro e w' ⟨rfl, ⟨nd, rfl⟩⟩))
       go_roundg k1
       case measure => have := HK1.out; omega
       case rel => exact ⟨(x0_1.extract 1 x0_1.size), (by first | rfl | (simp; done) | (simp [*]; done)), H', ⟨by have := HK1.out; omega⟩, by repeat (first | exact Drawn0.refl _ | apply Drawn0.step)⟩
      ·
       rw [if_neg c7] at H
       exact absurd H (by simp)
     ·
      replace c6 := Bool.eq_false_iff.mpr c6
      subst c6
      have H1 : (if (bt x0_1 0) = 118 then (if 1 ≤ (x0_1.size : Int) then (some (x0_1.extract 1 x0_1.size)) else (none)) else (some x0_1)) = some r := by rw [if_neg (show ¬ (false = true) by decide)] at H; exact H
      clear H
      have H := H1
      clear H1
      by_cases c9 : (bt x0_1 0) = 118
      ·
       rw [if_pos c9] at H
       have c9b0 : ((bt x0_1 0) == 118) = true := beq_iff_eq.mpr c9
       have c9b1 : ((bt x0_1 0) != 118) = false := bne_eq_false_iff_eq.mpr c9
       clear c9
       by_cases c10 : 1 ≤ (x0_1.size : Int)
       ·
        rw [if_pos c10] at H
        have c10b0 := eq_true c10
        have c10b1 : decide (1 ≤ (x0_1.size : Int)) = true := decide_eq_true c10
        clear c10
        obtain rfl := Option.some.inj H
        have p4 : 0 ≤ (0 : Int) := (by omega)
        have q4 : 0 < x0_1.size := (by have : (0 : Int) < (x0_1.size : Int) := of_decide_eq_true (by first | (with_reducible assumption) | assumption); omega)
        have hx4 : ∀ h : 0 < x0_1.size, ((x0_1[0]'h).toNat : Int) = bt x0_1 0 := bt_at x0_1 0
        clear p4
        have qi4 : (0 < (x0_1.size : Int)) = True := eq_true (of_decide_eq_true (by first | (with_reducible assumption) | assumption))
        replace q4 := eq_true q4
        go_wp2_with (first | (go_at_call 70; (with_reducible refine (spec_verWhite.calls (bt x0_1 0) false _ A5.out).mono ?_); rintro e w' ⟨rfl, ⟨nd, rfl⟩⟩; have p8 : 0 ≤ (0 : Int) := (by omega); have q8 : 0 < x0_1.size := (by have : (0 : Int) < (x0_1.size : Int) := of_decide_eq_true (by first | (with_reducible assumption) | assumption); omega); have hx8 : ∀ h : 0 < x0_1.size, ((x0_1[0]'h).toNat : Int) = bt x0_1 0 := bt_at x0_1 0; clear p8; have qi8 : (0 < (x0_1.size : Int)) = True := eq_true (of_decide_eq_true (by first | (with_reducible assumption) | assumption)); replace q8 := eq_true q8))
        go_ret
        exact ⟨by first | rfl | (simp; done) | (simp [*]; done), by repeat (first | exact Drawn0.refl _ | apply Drawn0.step)⟩
       ·
        rw [if_neg c10] at H
        exact absurd H (by simp)
      ·
       rw [if_neg c9] at H
       have c9b0 : ((bt x0_1 0) == 118) = false := beq_eq_false_iff_ne.mpr c9
       have c9b1 : ((bt x0_1 0) != 118) = true := bne_iff_ne.mpr c9
       obtain rfl := Option.some.inj H
       have p4 : 0 ≤ (0 : Int) := (by omega)
       have q4 : 0 < x0_1.size := (by have : (0 : Int) < (x0_1.size : Int) := of_decide_eq_true (by first | (with_reducible assumption) | assumption); omega)
       have hx4 : ∀ h : 0 < x0_1.size, ((x0_1[0]'h).toNat : Int) = bt x0_1 0 := bt_at x0_1 0
       clear p4
       have qi4 : (0 < (x0_1.size : Int)) = True := eq_true (of_decide_eq_true (by first | (with_reducible assumption) | assumption))
       replace q4 := eq_true q4
       go_wp2_with (first | (go_at_call 70; (with_reducible refine (spec_verWhite.calls (bt x0_1 0) false _ A5.out).mono ?_); rintro e w' ⟨rfl, ⟨nd, rfl⟩⟩; have p8 : 0 ≤ (0 : Int) := (by omega); have q8 : 0 < x0_1.size := (by have : (0 : Int) < (x0_1.size : Int) := of_decide_eq_true (by first | (with_reducible assumption) | assumption); omega); have hx8 : ∀ h : 0 < x0_1.size, ((x0_1[0]'h).toNat : Int) = bt x0_1 0 := bt_at x0_1 0; clear p8; have qi8 : (0 < (x0_1.size : Int)) = True := eq_true (of_decide_eq_true (by first | (with_reducible assumption) | assumption)); replace q8 := eq_true q8))
       go_ret
       exact ⟨by first | rfl | (simp; done) | (simp [*]; done), by repeat (first | exact Drawn0.refl _ | apply Drawn0.step)⟩
    ·
     rw [if_neg c3] at H
     exact absurd H (by simp)

end Go.Proofs.YtomoefldmgfaoaaDoor.PFnVersionParse
