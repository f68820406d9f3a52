/- Functions of the program as plain Lean functions, and that the machine's calls do what these say: written for this claim by wip/myprint.py over the kit's print.py. -/
import Derived.Test.YtomoefldmgfaoaaDoorPvHx0
import Derived.Test.YtomoefldmgfaoaaDoorPvHx2
namespace Go.Proofs.YtomoefldmgfaoaaDoor.PvH
open Go.RowKit Go.Proofs.YtomoefldmgfaoaaDoorW.PrintWords Go.Proofs.YtomoefldmgfaoaaDoorW.PrintLast Go.Proofs.YtomoefldmgfaoaaDoorW.PrintMore
attribute [local go_sem] max2_int min2_int max_two min_two max_three min_three max_four min_four   -- for this text's walks alone
set_option linter.unusedVariables false
set_option linter.unusedSimpArgs false

/-! ### version_zzSplit: function 95 -/
def zspl (t : ByteArray) : Nat → ByteArray → List ByteArray → Option (List ByteArray)
 | 0, _, _ => none
 | k + 1, s, ts =>
  if ts.length < 8796093022207 then
   (version_zzIndex.f (k + 1) s t).bind fun i =>
    if i < 0 then some (ts ++ [s])
    else if i + (t.size : Int) ≤ (s.size : Int) then zspl t k (s.extract (i + (t.size : Int)).toNat s.size) (ts ++ [s.extract 0 i.toNat])
    else none
  else none
theorem version_zzInfo : (Tryd.prog.info? 9).map (fun i => (i.zero, i.size, i.bytes)) = some (some (.string ⟨#[]⟩), 1, 16) := by kernel_rfl
def version_zzSplit.f (k : Nat) (a0 a1 : ByteArray) : Option (List ByteArray) := if a0.size ≤ 9223372036854775806 ∧ 0 < a1.size then zspl a1 k a0 [] else none
set_option maxHeartbeats 4000000 in
theorem version_zzSplit.calls (k : Nat) (a0 a1 : ByteArray) (r : List ByteArray) (w : World) (h : version_zzSplit.f k a0 a1 = some r) :
  Calls Tryd.prog 95 #[.string a0, .string a1] w fun e w' => ∃ v0_ : Value, e = .returned (v0_) ∧ Kd.R Kd.string 9 w' w.heap.size (fun _ => True) v0_ r ∧ Below w.heap.size w w' := by
 unfold version_zzSplit.f at h
 by_cases h1 : a0.size ≤ 9223372036854775806 ∧ 0 < a1.size
 ·
  rw [if_pos h1] at h
  have HS := Aside0.mk h1
  have H' := Aside0.mk h
  have q0 : (a1.size = 0) = False := eq_false (by omega)
  have q1 : ((a1.size : Int) = 0) = False := eq_false (by omega)
  have q2 : ((a1.size : Int) == 0) = false := beq_eq_false_iff_ne.2 (by omega)
  clear h h1
  go_enter Tryd.func95, Tryd.ntmps95
  go_wp2_with fail
  have HR0 : Aside0 (Kd.R Kd.string 9 w w.heap.size (fun _ => True) (.slice none 0 0) ([] : List ByteArray)) := ⟨Kd.R_nil _ _ _ _ _⟩
  go_loopg [0, 5] k (fun kq v0 v5 w' => ∃ (s : ByteArray) (xs : List ByteArray), v0 = .string s ∧ Aside0 (zspl a1 kq s xs = some r) ∧ Aside0 (kq ≤ k) ∧ Aside0 (s.size ≤ a0.size) ∧ Aside0 (Kd.R Kd.string 9 w' w.heap.size (fun _ => True) v5 xs) ∧ Aside0 (Below w.heap.size w w'))
  case atStart => exact ⟨a0, _, rfl, H', ⟨Nat.le_refl _⟩, ⟨Nat.le_refl _⟩, HR0, ⟨Below.refl _ _⟩⟩
  case round =>
   clear H' HR0
   obtain ⟨s, xs, rfl, HA, HK1, HSZ, HR, HB⟩ := hrel
   cases gk with
   | zero => exact absurd HA.out (by simp [zspl])
   | succ k1 =>
    have H := HA.out
    clear HA
    simp only [zspl] at H
    by_cases c4 : xs.length < 8796093022207
    ·
     rw [if_pos c4] at H
     obtain ⟨Ao, co, eo⟩ := Kd.R_slice HR.out
     subst eo
     have LM := Aside0.mk c4
     clear c4
     cases hi : version_zzIndex.f (k1 + 1) s a1 with
     | none => rw [hi] at H; cases H
     | some i =>
      rw [hi] at H
      simp only [Option.bind_some] at H
      have HI := Aside0.mk (fun w => version_zzIndex.calls (k1 + 1) s a1 i w hi)
      by_cases c1 : i < 0
      ·
       rw [if_pos c1] at H
       obtain rfl := Option.some.inj H
       have t1 : (i < 0) = True := eq_true c1
       have t2 : decide (i < 0) = true := decide_eq_true c1
       clear H c1 hi
       go_wp2_with (first
        | (go_at_call 113; refine (HI.out _).mono ?_; rintro e w1 ⟨rfl, hb⟩; have hb := hb.below; have HR1 := Aside0.mk (Kd.R_below HR.out hb); have HB1 := Aside0.mk (below_step HB.out hb); clear HI hb HR HB)
        | ((with_reducible refine gate_builtin (b := .append) (xs := #[.tmp 42, .tmp 44]) rfl ?_); at_builtin; refine Kd.R_append Kd.string (w0 := w) w.heap.size rfl (.tmp 42) (.tmp 44) 49 9 (.string ⟨#[]⟩) 16 rfl Tryd.underlying49 version_zzInfo rfl (by decide) (by omega) (.slice Ao xs.length co) xs (s) [.string (s)] (fun _ => True) (fun _ => False) rfl rfl ?aP (fun _ hk => hk.elim) ?aF ?aO ?aB ?aS ?aL ?_; (case aP => exact rfl); (case aB => exact HB1.out); (case aF => exact fun _ _ => trivial); (case aO => exact HR1.out); (case aS => exact below_size (HB1.out)); (case aL => have := LM.out; omega); intro v9 w9 ho hb hg hat))
       go_ret
       exact ⟨_, rfl, ho, hb⟩
      ·
       rw [if_neg c1] at H
       by_cases c2 : i + (a1.size : Int) ≤ (s.size : Int)
       ·
        rw [if_pos c2] at H
        have H' := Aside0.mk H
        have hsz := HSZ.out
        have hs0 := HS.out
        have t1 : (i < 0) = False := eq_false c1
        have t2 : decide (i < 0) = false := decide_eq_false c1
        have e1 : wrap64 (i + (a1.size : Int)) = i + (a1.size : Int) := by simp only [wrap64]; omega
        have e2 : IntKind.i64.wrap (i + (a1.size : Int)) = i + (a1.size : Int) := by rw [IntKind.wrap_i64]; omega
        have p1 : (0 ≤ i) = True := eq_true (by omega)
        have p2 : (i ≤ (s.size : Int)) = True := eq_true (by omega)
        have p3 : (0 ≤ i + (a1.size : Int)) = True := eq_true (by omega)
        have p4 : (i + (a1.size : Int) ≤ (s.size : Int)) = True := eq_true c2
        have hx : (s.extract (i + (a1.size : Int)).toNat s.size).size ≤ a0.size := by simp; omega
        have HX := Aside0.mk hx
        clear H c1 c2 hi hsz hs0 hx
        go_wp2_with (first
         | (go_at_call 113; refine (HI.out _).mono ?_; rintro e w1 ⟨rfl, hb⟩; have hb := hb.below; have HR1 := Aside0.mk (Kd.R_below HR.out hb); have HB1 := Aside0.mk (below_step HB.out hb); clear HI hb HR HB)
         | ((with_reducible refine gate_builtin (b := .append) (xs := #[.tmp 46, .tmp 50]) rfl ?_); at_builtin; refine Kd.R_append Kd.string (w0 := w) w.heap.size rfl (.tmp 46) (.tmp 50) 49 9 (.string ⟨#[]⟩) 16 rfl Tryd.underlying49 version_zzInfo rfl (by decide) (by omega) (.slice Ao xs.length co) xs (s.extract 0 i.toNat) [.string (s.extract 0 i.toNat)] (fun _ => True) (fun _ => False) rfl rfl ?aP (fun _ hk => hk.elim) ?aF ?aO ?aB ?aS ?aL ?_; (case aP => exact rfl); (case aB => exact HB1.out); (case aF => exact fun _ _ => trivial); (case aO => exact HR1.out); (case aS => exact below_size HB1.out); (case aL => have := LM.out; omega); intro v9 w9 ho hb hg hat))
        have RO := Aside0.mk ho
        have BO := Aside0.mk hb
        clear ho hb hg hat HR1 HB1
        go_wp2_with fail
        go_roundg k1
        case measure => have := HK1.out; omega
        case rel => exact ⟨_, _, rfl, H', ⟨by have := HK1.out; omega⟩, HX, RO, BO⟩
       ·
        rw [if_neg c2] at H
        cases H
    ·
     rw [if_neg c4] at H
     cases H
 ·
  rw [if_neg h1] at h; cases h
/-! ### stringslite_HasPrefix: function 114 -/
def stringslite_HasPrefix.f (a0 : ByteArray) (a1 : ByteArray) : Option (Bool) := if (a0.size : Int) ≥ (a1.size : Int) then (if 0 ≤ (a1.size : Int) then (if (a1.size : Int) ≤ (a0.size : Int) then (some ((a0.extract 0 ((a1.size : Int) : Int).toNat).toList == a1.toList)) else (none)) else (none)) else (some false)
set_option maxHeartbeats 8000000 in
set_option maxRecDepth 100000 in
theorem stringslite_HasPrefix.calls (a0 : ByteArray) (a1 : ByteArray) (r : Bool) (w : World) (h : stringslite_HasPrefix.f a0 a1 = some r) :
  Calls Tryd.prog 114 #[.string a0, .string a1] w fun e w' => e = .returned (.bool r) ∧ Drawn0 w w' := by
 have H : (if (a0.size : Int) ≥ (a1.size : Int) then (if 0 ≤ (a1.size : Int) then (if (a1.size : Int) ≤ (a0.size : Int) then (some ((a0.extract 0 ((a1.size : Int) : Int).toNat).toList == a1.toList)) else (none)) else (none)) else (some false)) = some r := h
 clear h
 by_cases c3 : (a0.size : Int) ≥ (a1.size : Int)
 ·
  rw [if_pos c3] at H
  have c3b0 : decide ((a1.size : Int) ≤ (a0.size : Int)) = true := decide_eq_true c3
  have c3b1 : decide (a1.size ≤ a0.size) = true := decide_eq_true (Int.ofNat_le.mp c3)
  clear c3
  by_cases c4 : 0 ≤ (a1.size : Int)
  ·
   rw [if_pos c4] at H
   have c4b0 := eq_true c4
   have c4b1 : decide (0 ≤ (a1.size : Int)) = true := decide_eq_true c4
   clear c4
   by_cases c5 : (a1.size : Int) ≤ (a0.size : Int)
   ·
    rw [if_pos c5] at H
    have c5b0 := eq_true c5
    have c5b1 : decide ((a1.size : Int) ≤ (a0.size : Int)) = true := decide_eq_true c5
    clear c5
    obtain rfl := Option.some.inj H
    go_enter Tryd.func114, Tryd.ntmps114
    go_wp2
    go_ret
    exact ⟨by first | rfl | (simp; done) | (simp [*]; done), by repeat (first | exact Drawn0.refl _ | apply Drawn0.step)⟩
   ·
    rw [if_neg c5] at H
    exact absurd H (by simp)
  ·
   rw [if_neg c4] at H
   exact absurd H (by simp)
 ·
  rw [if_neg c3] at H
  have c3b0 : decide ((a1.size : Int) ≤ (a0.size : Int)) = false := decide_eq_false c3
  have c3b1 : decide (a1.size ≤ a0.size) = false := decide_eq_false (fun h => c3 (Int.ofNat_le.mpr h))
  clear c3
  obtain rfl := Option.some.inj H
  go_enter Tryd.func114, Tryd.ntmps114
  go_wp2
  go_ret
  exact ⟨by first | rfl | (simp; done) | (simp [*]; done), by repeat (first | exact Drawn0.refl _ | apply Drawn0.step)⟩

/-! ### strings_HasPrefix: function 96 -/
def strings_HasPrefix.f (a0 : ByteArray) (a1 : ByteArray) : Option (Bool) := (stringslite_HasPrefix.f a0 a1).bind fun t107 => (some t107)
set_option maxHeartbeats 8000000 in
set_option maxRecDepth 100000 in
theorem strings_HasPrefix.calls (a0 : ByteArray) (a1 : ByteArray) (r : Bool) (w : World) (h : strings_HasPrefix.f a0 a1 = some r) :
  Calls Tryd.prog 96 #[.string a0, .string a1] w fun e w' => e = .returned (.bool r) ∧ Drawn0 w w' := by
 have H : ((stringslite_HasPrefix.f a0 a1).bind fun t107 => (some t107)) = some r := h
 clear h
 replace H := Option.bind_eq_some_iff.mp H
 obtain ⟨t107, A30, H⟩ := H
 replace H : (some t107) = some r := H
 have A3 := Aside0.mk A30
 clear A30
 obtain rfl := Option.some.inj H
 go_enter Tryd.func96, Tryd.ntmps96
 go_wp2_with (first | ((with_reducible refine gate_callee (f := 114) rfl ?_); refine goesL_ (some 7) rfl rfl Tryd.func114 (by kernel_rfl) rfl #[.string a0, .string a1] rfl (by (try simp only [List.map_toArray, List.map_cons, List.map_nil]); first | done | rfl | (simp only [List.length_drop, List.length_take]; rfl)) ?_; (with_reducible refine (stringslite_HasPrefix.calls a0 a1 t107 _ A3.out).mono ?_); rintro e w' ⟨rfl, ⟨nd, rfl⟩⟩; refine ⟨_, rfl, ?_⟩))
 go_ret
 exact ⟨by first | rfl | (simp; done) | (simp [*]; done), by repeat (first | exact Drawn0.refl _ | apply Drawn0.step)⟩

-- NOT PRINTED: function 130 (stringslite_Clone)

-- NOT PRINTED: function 118 (strconv_syntaxError)

-- NOT PRINTED: function 119 (strconv_rangeError)

-- NOT PRINTED: function 135 (strconv_FormatInt)

-- NOT PRINTED: function 134 (strconv_Itoa_134)

-- NOT PRINTED: function 131 (strconv_Itoa_131)

-- NOT PRINTED: function 120 (strconv_baseError)

-- NOT PRINTED: function 121 (strconv_bitSizeError)

-- NOT PRINTED: function 102 (strconv_toError)

-- NOT PRINTED: function 128 (strconv_lower)

-- NOT PRINTED: function 129 (strconv_underscoreOK)

-- NOT PRINTED: function 115 (strconv_ParseUint_115)

-- NOT PRINTED: function 97 (strconv_ParseUint_97)

end Go.Proofs.YtomoefldmgfaoaaDoor.PvH
