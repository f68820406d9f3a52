/- Functions of the program as plain Lean functions, and that the machine's calls do what these say: written for this claim by wip/myprint.py over the kit's print.py. -/
import Derived.Test.YtpaihcikeieliaaPFnResourceVersionx0
namespace Go.Proofs.Ytpaihcikeieliaa.PFnResourceVersion
open Go.RowKit Go.Proofs.YtpaihcikeieliaaW.PrintWords Go.Proofs.YtpaihcikeieliaaW.PrintLast Go.Proofs.YtpaihcikeieliaaW.PrintMore
attribute [local go_sem] max2_int min2_int max_two min_two max_three min_three max_four min_four   -- for this text's walks alone
set_option linter.unusedVariables false
set_option linter.unusedSimpArgs false

/-! ### resourceversion_isDigit: function 64 -/
def resourceversion_isDigit.f (a0 : Int) : Option (Bool) := if a0 ≥ 48 then (some (decide (a0 ≤ 57))) else (some false)
set_option maxHeartbeats 8000000 in
set_option maxRecDepth 100000 in
theorem resourceversion_isDigit.calls (a0 : Int) (r : Bool) (w : World) (h : resourceversion_isDigit.f a0 = some r) :
    Calls Try.prog 64 #[.int .u8 a0] w fun e w' => e = .returned (.bool r) ∧ Drawn0 w w' := by
  have H : (if a0 ≥ 48 then (some (decide (a0 ≤ 57))) else (some false)) = some r := h
  clear h
  by_cases c2 : a0 ≥ 48
  · rw [if_pos c2] at H
    have c2b0 : decide (48 ≤ a0) = true := decide_eq_true c2
    clear c2
    obtain rfl := Option.some.inj H
    go_enter Try.func64, Try.ntmps64
    go_wp2
    go_ret
    exact ⟨by first | rfl | (simp; done) | (simp [*]; done), by repeat (first | exact Drawn0.refl _ | apply Drawn0.step)⟩
  · rw [if_neg c2] at H
    have c2b0 : decide (48 ≤ a0) = false := decide_eq_false c2
    clear c2
    obtain rfl := Option.some.inj H
    go_enter Try.func64, Try.ntmps64
    go_wp2
    go_ret
    exact ⟨by first | rfl | (simp; done) | (simp [*]; done), by repeat (first | exact Drawn0.refl _ | apply Drawn0.step)⟩

/-! ### resourceversion_isWellFormed: function 56 -/
def wfR (l : List UInt8) : Bool := decide (0 < l.length) && (!(l.headD 0 == 48) && l.all fun b => decide (48 ≤ b.toNat ∧ b.toNat ≤ 57))
def resourceversion_isWellFormed.f (a0 : ByteArray) : Option Bool := some (wfR a0.data.toList)
theorem headD_get (l : List UInt8) (h : 0 < l.length) : l.headD 0 = l[0]'h := by
  cases l with
  | nil => simp at h
  | cons x l => rfl
def digitAt (s : ByteArray) (j : Nat) (h : j < s.size) : Prop := 48 ≤ (s[j]'h).toNat ∧ (s[j]'h).toNat ≤ 57
theorem wfR_of (s : ByteArray) (h0 : 0 < s.size) (h1 : (s[0]'h0).toNat ≠ 48) (h : ∀ j, ∀ hj : j < s.size, digitAt s j hj) : wfR s.data.toList = true := by
  have hl : s.data.toList.length = s.size := by rw [Array.length_toList]; rfl
  unfold wfR
  rw [Bool.and_eq_true, Bool.and_eq_true]
  refine ⟨decide_eq_true (by omega), ?_, ?_⟩
  · have hz : 0 < s.data.toList.length := by omega
    have this : s.data.toList.headD 0 = s[0]'h0 := headD_get _ hz
    rw [this]
    have : ((s[0]'h0) == 48) = false := beq_eq_false_iff_ne.2 (fun z => h1 (by rw [z]; rfl))
    rw [this]; rfl
  · rw [List.all_eq_true]
    intro x hx
    obtain ⟨j, hj, rfl⟩ := List.mem_iff_getElem.1 hx
    exact decide_eq_true (h j (by omega))
theorem wfR_not (s : ByteArray) (j : Nat) (hj : j < s.size) (h : ¬ digitAt s j hj) : wfR s.data.toList = false := by
  have hl : s.data.toList.length = s.size := by rw [Array.length_toList]; rfl
  have : (s.data.toList.all fun b => decide (48 ≤ b.toNat ∧ b.toNat ≤ 57)) = false := by
    rw [List.all_eq_false]
    exact ⟨s.data.toList[j]'(by omega), List.getElem_mem _, fun z => h (by have z' := of_decide_eq_true z; exact z')⟩
  unfold wfR
  rw [this]; simp
theorem wfR_zero (s : ByteArray) (h0 : 0 < s.size) (h1 : (s[0]'h0).toNat = 48) : wfR s.data.toList = false := by
  have hl : s.data.toList.length = s.size := by rw [Array.length_toList]; rfl
  have hz : 0 < s.data.toList.length := by omega
  have e : s.data.toList[0]'hz = s[0]'h0 := rfl
  have h2 : s[0]'h0 = 48 := UInt8.toNat_inj.1 (by rw [h1]; rfl)
  have this : s.data.toList.headD 0 = 48 := (headD_get _ hz).trans (e.trans h2)
  unfold wfR
  rw [this]; simp
theorem wfR_nil (s : ByteArray) (h0 : ¬ 0 < s.size) : wfR s.data.toList = false := by
  have hl : s.data.toList.length = s.size := by rw [Array.length_toList]; rfl
  unfold wfR
  rw [decide_eq_false (by omega)]; rfl
theorem isDigit_yes (c : Nat) (h : 48 ≤ c ∧ c ≤ 57) : resourceversion_isDigit.f (c : Int) = some true := by
  unfold resourceversion_isDigit.f
  rw [if_pos (by omega), decide_eq_true (by omega)]
theorem isDigit_no (c : Nat) (h : ¬ (48 ≤ c ∧ c ≤ 57)) : resourceversion_isDigit.f (c : Int) = some false := by
  unfold resourceversion_isDigit.f
  by_cases g : (c : Int) ≥ 48
  · rw [if_pos g, decide_eq_false (by omega)]
  · rw [if_neg g]
set_option maxHeartbeats 1000000 in
theorem resourceversion_isWellFormed.calls (a0 : ByteArray) (r : Bool) (w : World) (h : resourceversion_isWellFormed.f a0 = some r) :
    Calls Try.prog 56 #[.string a0] w fun e w' => e = .returned (.bool r) ∧ Below w.heap.size w w' := by
  obtain rfl := Option.some.inj h
  clear h
  by_cases h0 : 0 < a0.size
  · have e0 : ((a0.size : Int) == 0) = false := beq_eq_false_iff_ne.2 (by omega)
    by_cases h1 : (a0[0]'h0).toNat = 48
    · have hfin := Lib.hid (wfR_zero a0 h0 h1)
      have h1' : (((a0[0]'h0).toNat : Int) == 48) = true := beq_iff_eq.2 (by omega)
      clear h1
      go_enter Try.func56, Try.ntmps56
      go_wp2_with fail
      go_ret
      exact ⟨by rw [hfin.out]; rfl, Below.refl _ _⟩
    · have h1' : (((a0[0]'h0).toNat : Int) == 48) = false := beq_eq_false_iff_ne.2 (by omega)
      have H1 := Lib.hid h1
      clear h1
      go_enter Try.func56, Try.ntmps56
      go_wp2_with fail
      go_loopw [] (fun wr => ∃ pos : Nat, Below w.heap.size w wr ∧ wr.heap[w.heap.size]? = some (.stringIter a0 pos) ∧ pos ≤ a0.size ∧ ∀ j, j < pos → ∀ hj : j < a0.size, digitAt a0 j hj) (fun wr => a0.size - wr.iterPos w.heap.size)
      case atStart => exact ⟨0, below_alloc (Below.refl _ _) _, World.iter_heap w a0 0, Nat.zero_le _, fun j hj => absurd hj (Nat.not_lt_zero _)⟩
      case round =>
        obtain ⟨pos, hb, hk, hp, hd⟩ := hrel
        have HB := Aside0.mk hb
        have HK := Aside0.mk hk
        have HD := Aside0.mk hd
        clear hb hd hk
        by_cases hlt : pos < a0.size
        · by_cases hc : 48 ≤ (a0[pos]'hlt).toNat ∧ (a0[pos]'hlt).toNat ≤ 57
          · have hnx := fun ty => Lib.run_next_ascii_at (P := Try.prog) _ w.heap.size a0 pos ty HK.out hlt (by omega)
            have hdy := isDigit_yes _ hc
            have HC := Aside0.mk hc
            have HY := Aside0.mk hdy
            clear hc hdy
            go_wp2_with (go_at_call 64; refine (resourceversion_isDigit.calls _ _ _ HY.out).mono ?_; rintro e w' ⟨rfl, ⟨m, rfl⟩⟩)
            go_roundw
            case rel =>
              refine ⟨pos + 1, pw_below_drewN (Lib.below_iterAt HB.out (Nat.le_refl _) a0 (pos + 1)) m, Lib.iterAt_heap _ _ _ _ _ HK.out, by omega, fun j hj hj2 => ?_⟩
              by_cases he : j = pos
              · subst he; exact HC.out
              · exact HD.out j (by omega) hj2
            case measure =>
              have e1 := Lib.iterAt_heap _ _ a0 _ (pos + 1) HK.out
              have e2 := HK.out
              simp only [World.iterPos, World.heap_drewN, e1, e2]
              omega
          · have hnx := fun ty => Lib.run_next_any_at (P := Try.prog) _ w.heap.size a0 pos ty HK.out hlt
            have HY := Aside0.mk (isDigit_no _ hc)
            have hfin := Lib.hid (wfR_not a0 pos hlt hc)
            clear hc
            go_wp2_with (go_at_call 64; refine (resourceversion_isDigit.calls _ _ _ HY.out).mono ?_; rintro e w' ⟨rfl, ⟨m, rfl⟩⟩)
            go_ret
            exact ⟨by rw [hfin.out]; rfl, pw_below_drewN (Lib.below_iterAt HB.out (Nat.le_refl _) a0 _) m⟩
        · have hnx := fun ty => Lib.run_next_end_at (P := Try.prog) _ w.heap.size a0 pos ty HK.out hlt
          have hfin := Lib.hid (wfR_of a0 h0 H1.out (fun j hj => HD.out j (by omega) hj))
          go_wp2_with fail
          go_ret
          exact ⟨by rw [hfin.out]; rfl, HB.out⟩
  · have e0 : ((a0.size : Int) == 0) = true := beq_iff_eq.2 (by omega)
    have hfin := Lib.hid (wfR_nil a0 h0)
    go_enter Try.func56, Try.ntmps56
    go_wp2_with fail
    go_ret
    exact ⟨by rw [hfin.out]; rfl, Below.refl _ _⟩
-- NOT PRINTED: function 69 (bytealg_abigen_runtime_cmpstring)

-- NOT PRINTED: function 65 (bytealg_CompareString)

/-! ### strings_Compare: function 57 -/
def strings_Compare.f (a0 a1 : ByteArray) : Option Int := some (Lib.compareBytes a0.data.toList a1.data.toList)
theorem strings_Compare.calls (a0 a1 : ByteArray) (r : Int) (w : World) (h : strings_Compare.f a0 a1 = some r) :
    Calls Try.prog 57 #[.string a0, .string a1] w fun e w' => e = .returned (.int .i64 r) ∧ Drawn0 w w' := by
  obtain rfl := Option.some.inj h
  exact (Try.strings_Compare a0 a1 w).mono (fun e w' h => ⟨h.1, by rw [h.2]; exact Drawn0.refl _⟩)
-- NOT PRINTED: function 43 (resourceversion_CompareResourceVersion)

/-! ### impl_ResourceVersionCompare: function 20 -/
def cmpN (a b : ByteArray) : Int := if a.size < b.size then -1 else if b.size < a.size then 1 else Lib.compareBytes a.data.toList b.data.toList
def impl_ResourceVersionCompare.f (a0 a1 : ByteArray) : Option (Int × Bool) := some (if wfR a0.data.toList = true then (if wfR a1.data.toList = true then (cmpN a0 a1, true) else (0, false)) else (0, false))
set_option maxHeartbeats 1000000 in
theorem crv_yes (a b : ByteArray) (w : World) (ha : wfR a.data.toList = true) (hb : wfR b.data.toList = true) :
    Calls Try.prog 43 #[.string a, .string b] w fun e w' => e = .returned (.tuple #[.int .i64 (cmpN a b), .nilIface]) ∧ Below w.heap.size w w' := by
  have HA := Aside0.mk ((resourceversion_isWellFormed.calls a true · (by unfold resourceversion_isWellFormed.f; rw [ha])))
  have HB := Aside0.mk ((resourceversion_isWellFormed.calls b true · (by unfold resourceversion_isWellFormed.f; rw [hb])))
  clear ha hb
  have hfin : Aside0 (cmpN a b = if a.size < b.size then -1 else if b.size < a.size then 1 else Lib.compareBytes a.data.toList b.data.toList) := ⟨rfl⟩
  generalize cmpN a b = c at *
  go_enter Try.func43, Try.ntmps43
  go_wp2_with fail
  refine (HA.out _).mono ?_
  rintro e w1 ⟨rfl, hb1⟩
  have B1 := Aside0.mk hb1
  clear hb1
  go_wp2_with fail
  refine (HB.out _).mono ?_
  rintro e w2 ⟨rfl, hb2⟩
  have B2 : Aside0 (Below w.heap.size w w2) := ⟨below_step B1.out hb2⟩
  clear hb2 B1 HA HB
  by_cases h1 : a.size < b.size
  · have hc := hfin.out
    rw [if_pos h1] at hc
    subst hc
    clear hfin
    go_wp2_with fail
    go_ret2
    exact ⟨rfl, B2.out⟩
  · by_cases h2 : b.size < a.size
    · have hc := hfin.out
      rw [if_neg h1, if_pos h2] at hc
      subst hc
      clear hfin
      go_wp2_with fail
      go_ret2
      exact ⟨rfl, B2.out⟩
    · have hc := hfin.out
      rw [if_neg h1, if_neg h2] at hc
      clear hfin
      have HC := Aside0.mk hc
      clear hc
      go_wp2_with fail
      refine (strings_Compare.calls a b _ _ rfl).mono ?_
      rintro e w3 ⟨rfl, ⟨m, rfl⟩⟩
      go_wp2_with fail
      go_ret2
      exact ⟨by rw [HC.out]; rfl, pw_below_drewN B2.out m⟩
set_option maxHeartbeats 1000000 in
theorem crv_no (a b : ByteArray) (w : World) (h : wfR a.data.toList = false ∨ (wfR a.data.toList = true ∧ wfR b.data.toList = false)) :
    Calls Try.prog 43 #[.string a, .string b] w fun e w' => (∃ s : ByteArray, e = .returned (.tuple #[.int .i64 0, .iface 83 (.agg #[.string s])])) ∧ Below w.heap.size w w' := by
  rcases h with ha | ⟨ha, hb⟩
  · have HA := Aside0.mk ((resourceversion_isWellFormed.calls a false · (by unfold resourceversion_isWellFormed.f; rw [ha])))
    clear ha
    go_enter Try.func43, Try.ntmps43
    go_wp2_with fail
    refine (HA.out _).mono ?_
    rintro e w1 ⟨rfl, hb1⟩
    have B1 := Aside0.mk hb1
    clear hb1
    go_wp2_with fail
    go_ret2
    exact ⟨⟨a, rfl⟩, B1.out⟩
  · have HA := Aside0.mk ((resourceversion_isWellFormed.calls a true · (by unfold resourceversion_isWellFormed.f; rw [ha])))
    have HB := Aside0.mk ((resourceversion_isWellFormed.calls b false · (by unfold resourceversion_isWellFormed.f; rw [hb])))
    clear ha hb
    go_enter Try.func43, Try.ntmps43
    go_wp2_with fail
    refine (HA.out _).mono ?_
    rintro e w1 ⟨rfl, hb1⟩
    have B1 := Aside0.mk hb1
    clear hb1
    go_wp2_with fail
    refine (HB.out _).mono ?_
    rintro e w2 ⟨rfl, hb2⟩
    have B2 : Aside0 (Below w.heap.size w w2) := ⟨below_step B1.out hb2⟩
    clear hb2 B1 HA HB
    go_wp2_with fail
    go_ret2
    exact ⟨⟨b, rfl⟩, B2.out⟩
set_option maxHeartbeats 1000000 in
theorem impl_ResourceVersionCompare.calls (a0 a1 : ByteArray) (r1 : Int) (r2 : Bool) (w : World) (h : impl_ResourceVersionCompare.f a0 a1 = some (r1, r2)) :
    Calls Try.prog 20 #[.string a0, .string a1] w fun e w' => e = .returned (.tuple #[.int .i64 r1, .bool r2]) ∧ Below w.heap.size w w' := by
  unfold impl_ResourceVersionCompare.f at h
  have h := Option.some.inj h
  by_cases hy : wfR a0.data.toList = true ∧ wfR a1.data.toList = true
  · rw [if_pos hy.1, if_pos hy.2] at h
    simp only [Prod.mk.injEq] at h
    obtain ⟨rfl, rfl⟩ := h
    have HC := Aside0.mk (crv_yes a0 a1 · hy.1 hy.2)
    clear hy
    go_enter Try.func20, Try.ntmps20
    go_wp2_with fail
    refine (HC.out _).mono ?_
    rintro e w1 ⟨rfl, hb1⟩
    have B1 := Aside0.mk hb1
    clear hb1 HC
    go_wp2_with fail
    go_quiet (fail)
    go_wp2_with fail
    go_ret2
    exact ⟨rfl, pw_below_drewN B1.out _⟩
  · have hn : wfR a0.data.toList = false ∨ (wfR a0.data.toList = true ∧ wfR a1.data.toList = false) := by
      cases e0 : wfR a0.data.toList <;> cases e1 : wfR a1.data.toList <;> simp [e0, e1] at hy ⊢
    have h' : (0, false) = (r1, r2) := by
      rw [← h]
      rcases hn with e | ⟨e, e'⟩
      · rw [if_neg (by rw [e]; simp)]
      · rw [if_pos e, if_neg (by rw [e']; simp)]
    simp only [Prod.mk.injEq] at h'
    obtain ⟨rfl, rfl⟩ := h'
    have HC := Aside0.mk (crv_no a0 a1 · hn)
    clear hy hn h
    go_enter Try.func20, Try.ntmps20
    go_wp2_with fail
    refine (HC.out _).mono ?_
    rintro e w1 ⟨⟨s, rfl⟩, hb1⟩
    have B1 := Aside0.mk hb1
    clear hb1 HC
    go_wp2_with fail
    go_quiet (fail)
    go_wp2_with fail
    go_ret2
    exact ⟨rfl, pw_below_drewN B1.out _⟩
/-! ### spec_NumPositive: function 21 -/
def spec_NumPositive.l0 : Nat → ByteArray → Int → Option (Bool)
  | 0, _, _ => none
  | k + 1, x0, x3 => if x3 < (x0.size : Int) then (if 0 ≤ x3 then (if (bt x0 x3) < 48 then (some false) else (if (bt x0 x3) > 57 then (some false) else (spec_NumPositive.l0 k x0 (wrap64 (x3 + 1))))) else (none)) else (if x0.toList = ([] : List UInt8) then (some false) else (if 0 < (x0.size : Int) then (some ((bt x0 0) != 48)) else (none)))
def spec_NumPositive.f (k : Nat) (a0 : ByteArray) : Option (Bool) := spec_NumPositive.l0 k a0 0
theorem spec_NumPositive.mono_l : ∀ k, (∀ y0 y1, LeO (spec_NumPositive.l0 k y0 y1) (spec_NumPositive.l0 (k + 1) y0 y1))
  | 0 => fun _ _ r h => by simp [spec_NumPositive.l0] at h
  | k + 1 => by
    have ih0 := spec_NumPositive.mono_l k
    · intro y0 y1
      unfold spec_NumPositive.l0
      repeat' first
      | (with_reducible exact ih0 _ _)
      | (with_reducible exact LeO.refl _)
      | (with_reducible exact LeO.none _)
      | (with_reducible refine LeO.ite ?_ ?_)
      | (with_reducible refine LeO.bind ?_ (fun _ => ?_))
      | exact ih0 _ _
      | exact LeO.none _
      | refine LeO.ite ?_ ?_
      | refine LeO.bind ?_ (fun _ => ?_)
theorem spec_NumPositive.mono : ∀ a0 k, LeO (spec_NumPositive.f k a0) (spec_NumPositive.f (k + 1) a0) := by
  intro a0 k
  have ih0 := spec_NumPositive.mono_l k
  unfold spec_NumPositive.f
  repeat' first
      | (with_reducible exact ih0 _ _)
      | (with_reducible exact LeO.refl _)
      | (with_reducible exact LeO.none _)
      | (with_reducible refine LeO.ite ?_ ?_)
      | (with_reducible refine LeO.bind ?_ (fun _ => ?_))
      | exact ih0 _ _
      | exact LeO.none _
      | refine LeO.ite ?_ ?_
      | refine LeO.bind ?_ (fun _ => ?_)
set_option maxHeartbeats 8000000 in
set_option maxRecDepth 100000 in
theorem spec_NumPositive.calls (k : Nat) (a0 : ByteArray) (r : Bool) (w : World) (h : spec_NumPositive.f k a0 = some r) :
    Calls Try.prog 21 #[.string a0] w fun e w' => e = .returned (.bool r) ∧ Drawn0 w w' := by
  have H : (spec_NumPositive.l0 k a0 0) = some r := h
  clear h
  have H' := Aside0.mk H
  clear H
  go_enter Try.func21, Try.ntmps21
  go_wp2
  go_loopg [3] k (fun kq v3 w' => ∃ (x3_1 : Int), v3 = .int .i64 x3_1 ∧ Aside0 (spec_NumPositive.l0 kq a0 x3_1 = some r) ∧ Aside0 (kq ≤ k) ∧ Drawn0 w w')
  case atStart => exact ⟨(0), (by first | rfl | (simp; done) | (simp [*]; done)), H', ⟨Nat.le_refl _⟩, by repeat (first | exact Drawn0.refl _ | apply Drawn0.step)⟩
  case round =>
    clear H'
    obtain ⟨x3_1, rfl, HA, HK1, ⟨m1, rfl⟩⟩ := hrel
    cases gk with
    | zero => exact absurd HA.out (by simp [spec_NumPositive.l0])
    | succ k1 =>
      have H := HA.out
      clear HA
      simp only [spec_NumPositive.l0] at H
      by_cases c2 : x3_1 < (a0.size : Int)
      · rw [if_pos c2] at H
        have c2b0 : decide (x3_1 < (a0.size : Int)) = true := decide_eq_true c2
        clear c2
        by_cases c3 : 0 ≤ x3_1
        · rw [if_pos c3] at H
          have c3b0 : decide (0 ≤ x3_1) = true := decide_eq_true c3
          clear c3
          by_cases c5 : (bt a0 x3_1) < 48
          · rw [if_pos c5] at H
            have c5b0 : decide ((bt a0 x3_1) < 48) = true := decide_eq_true c5
            clear c5
            obtain rfl := Option.some.inj H
            have p4 : 0 ≤ (x3_1 : Int) := of_decide_eq_true (by first | (with_reducible assumption) | assumption)
            have q4 : x3_1 < (a0.size : Int) := of_decide_eq_true (by first | (with_reducible assumption) | assumption)
            have hx4 := bt_at a0 x3_1
            replace p4 := eq_true p4
            replace q4 := eq_true q4
            go_wp2
            go_ret
            exact ⟨by first | rfl | (simp; done) | (simp [*]; done), by repeat (first | exact Drawn0.refl _ | apply Drawn0.step)⟩
          · rw [if_neg c5] at H
            have c5b0 : decide ((bt a0 x3_1) < 48) = false := decide_eq_false c5
            clear c5
            by_cases c7 : (bt a0 x3_1) > 57
            · rw [if_pos c7] at H
              have c7b0 : decide (57 < (bt a0 x3_1)) = true := decide_eq_true c7
              clear c7
              obtain rfl := Option.some.inj H
              have p4 : 0 ≤ (x3_1 : Int) := of_decide_eq_true (by first | (with_reducible assumption) | assumption)
              have q4 : x3_1 < (a0.size : Int) := of_decide_eq_true (by first | (with_reducible assumption) | assumption)
              have hx4 := bt_at a0 x3_1
              replace p4 := eq_true p4
              replace q4 := eq_true q4
              have p6 : 0 ≤ (x3_1 : Int) := of_decide_eq_true (by first | (with_reducible assumption) | assumption)
              have q6 : x3_1 < (a0.size : Int) := of_decide_eq_true (by first | (with_reducible assumption) | assumption)
              have hx6 := bt_at a0 x3_1
              replace p6 := eq_true p6
              replace q6 := eq_true q6
              go_wp2
              go_ret
              exact ⟨by first | rfl | (simp; done) | (simp [*]; done), by repeat (first | exact Drawn0.refl _ | apply Drawn0.step)⟩
            · rw [if_neg c7] at H
              have c7b0 : decide (57 < (bt a0 x3_1)) = false := decide_eq_false c7
              clear c7
              have H' := Aside0.mk H
              clear H
              have p4 : 0 ≤ (x3_1 : Int) := of_decide_eq_true (by first | (with_reducible assumption) | assumption)
              have q4 : x3_1 < (a0.size : Int) := of_decide_eq_true (by first | (with_reducible assumption) | assumption)
              have hx4 := bt_at a0 x3_1
              replace p4 := eq_true p4
              replace q4 := eq_true q4
              have p6 : 0 ≤ (x3_1 : Int) := of_decide_eq_true (by first | (with_reducible assumption) | assumption)
              have q6 : x3_1 < (a0.size : Int) := of_decide_eq_true (by first | (with_reducible assumption) | assumption)
              have hx6 := bt_at a0 x3_1
              replace p6 := eq_true p6
              replace q6 := eq_true q6
              go_wp2
              go_roundg k1
              case measure => have := HK1.out; omega
              case rel => exact ⟨(wrap64 (x3_1 + 1)), (by first | rfl | (simp; done) | (simp [*]; done)), H', ⟨by have := HK1.out; omega⟩, by repeat (first | exact Drawn0.refl _ | apply Drawn0.step)⟩
        · rw [if_neg c3] at H
          exact absurd H (by simp)
      · rw [if_neg c2] at H
        have c2b0 : decide (x3_1 < (a0.size : Int)) = false := decide_eq_false c2
        clear c2
        by_cases c8 : a0.toList = ([] : List UInt8)
        · rw [if_pos c8] at H
          have c8b0 : (a0.toList == ([] : List UInt8)) = true := beq_iff_eq.mpr c8
          have c8b1 : (a0.toList != ([] : List UInt8)) = false := bne_eq_false_iff_eq.mpr c8
          clear c8
          obtain rfl := Option.some.inj H
          go_wp2
          go_ret
          exact ⟨by first | rfl | (simp; done) | (simp [*]; done), by repeat (first | exact Drawn0.refl _ | apply Drawn0.step)⟩
        · rw [if_neg c8] at H
          have c8b0 : (a0.toList == ([] : List UInt8)) = false := beq_eq_false_iff_ne.mpr c8
          have c8b1 : (a0.toList != ([] : List UInt8)) = true := bne_iff_ne.mpr c8
          by_cases c9 : 0 < (a0.size : Int)
          · rw [if_pos c9] at H
            have c9b0 : decide (0 < (a0.size : Int)) = true := decide_eq_true c9
            have c9b1 : decide (0 < a0.size) = true := decide_eq_true (by omega)
            clear c9
            obtain rfl := Option.some.inj H
            have p10 : 0 ≤ (0 : Int) := (by omega)
            have q10 : 0 < a0.size := (by have : (0 : Int) < (a0.size : Int) := of_decide_eq_true (by first | (with_reducible assumption) | assumption); omega)
            have hx10 : ∀ h : 0 < a0.size, ((a0[0]'h).toNat : Int) = bt a0 0 := bt_at a0 0
            clear p10
            have qi10 : (0 < (a0.size : Int)) = True := eq_true (of_decide_eq_true (by first | (with_reducible assumption) | assumption))
            replace q10 := eq_true q10
            go_wp2
            go_ret
            exact ⟨by first | rfl | (simp; done) | (simp [*]; done), by repeat (first | exact Drawn0.refl _ | apply Drawn0.step)⟩
          · rw [if_neg c9] at H
            exact absurd H (by simp)

/-! ### spec_NumOrder: function 22 -/
def spec_NumOrder.l0 : Nat → ByteArray → ByteArray → Int → Option (Int)
  | 0, _, _, _ => none
  | k + 1, x0, x1, x5 => if x5 < (x0.size : Int) then (if 0 ≤ x5 then (if x5 < (x1.size : Int) then (if (bt x0 x5) = (bt x1 x5) then (spec_NumOrder.l0 k x0 x1 (wrap64 (x5 + 1))) else (if (bt x0 x5) < (bt x1 x5) then (some (-1)) else (some 1))) else (none)) else (none)) else (some 0)
def spec_NumOrder.f (k : Nat) (a0 : ByteArray) (a1 : ByteArray) : Option (Int) := if (a0.size : Int) = (a1.size : Int) then (spec_NumOrder.l0 k a0 a1 0) else (if (a0.size : Int) < (a1.size : Int) then (some (-1)) else (some 1))
theorem spec_NumOrder.mono_l : ∀ k, (∀ y0 y1 y2, LeO (spec_NumOrder.l0 k y0 y1 y2) (spec_NumOrder.l0 (k + 1) y0 y1 y2))
  | 0 => fun _ _ _ r h => by simp [spec_NumOrder.l0] at h
  | k + 1 => by
    have ih0 := spec_NumOrder.mono_l k
    · intro y0 y1 y2
      unfold spec_NumOrder.l0
      repeat' first
      | (with_reducible exact ih0 _ _ _)
      | (with_reducible exact LeO.refl _)
      | (with_reducible exact LeO.none _)
      | (with_reducible refine LeO.ite ?_ ?_)
      | (with_reducible refine LeO.bind ?_ (fun _ => ?_))
      | exact ih0 _ _ _
      | exact LeO.none _
      | refine LeO.ite ?_ ?_
      | refine LeO.bind ?_ (fun _ => ?_)
theorem spec_NumOrder.mono : ∀ a0 a1 k, LeO (spec_NumOrder.f k a0 a1) (spec_NumOrder.f (k + 1) a0 a1) := by
  intro a0 a1 k
  have ih0 := spec_NumOrder.mono_l k
  unfold spec_NumOrder.f
  repeat' first
      | (with_reducible exact ih0 _ _ _)
      | (with_reducible exact LeO.refl _)
      | (with_reducible exact LeO.none _)
      | (with_reducible refine LeO.ite ?_ ?_)
      | (with_reducible refine LeO.bind ?_ (fun _ => ?_))
      | exact ih0 _ _ _
      | exact LeO.none _
      | refine LeO.ite ?_ ?_
      | refine LeO.bind ?_ (fun _ => ?_)
set_option maxHeartbeats 8000000 in
set_option maxRecDepth 100000 in
theorem spec_NumOrder.calls (k : Nat) (a0 : ByteArray) (a1 : ByteArray) (r : Int) (w : World) (h : spec_NumOrder.f k a0 a1 = some r) :
    Calls Try.prog 22 #[.string a0, .string a1] w fun e w' => e = .returned (.int .i64 r) ∧ Drawn0 w w' := by
  have H : (if (a0.size : Int) = (a1.size : Int) then (spec_NumOrder.l0 k a0 a1 0) else (if (a0.size : Int) < (a1.size : Int) then (some (-1)) else (some 1))) = some r := h
  clear h
  by_cases c3 : (a0.size : Int) = (a1.size : Int)
  · rw [if_pos c3] at H
    have c3b0 : ((a0.size : Int) == (a1.size : Int)) = true := beq_iff_eq.mpr c3
    have c3b1 : ((a0.size : Int) != (a1.size : Int)) = false := bne_eq_false_iff_eq.mpr c3
    have c3b2 : (a0.size == a1.size) = true := by first | simpa using c3 | (simp at c3 ⊢; omega)
    clear c3
    have H' := Aside0.mk H
    clear H
    go_enter Try.func22, Try.ntmps22
    go_wp2
    repeat (go_quiet (fail); try go_wp2)
    go_loopg [5] k (fun kq v5 w' => ∃ (x5_1 : Int), v5 = .int .i64 x5_1 ∧ Aside0 (spec_NumOrder.l0 kq a0 a1 x5_1 = some r) ∧ Aside0 (kq ≤ k) ∧ Drawn0 w w')
    case atStart => exact ⟨(0), (by first | rfl | (simp; done) | (simp [*]; done)), H', ⟨Nat.le_refl _⟩, by repeat (first | exact Drawn0.refl _ | apply Drawn0.step)⟩
    case round =>
      clear H'
      try clear c2
      try clear p2
      try clear c3
      try clear c3b0
      try clear c3b1
      try clear c3b2
      obtain ⟨x5_1, rfl, HA, HK1, ⟨m1, rfl⟩⟩ := hrel
      cases gk with
      | zero => exact absurd HA.out (by simp [spec_NumOrder.l0])
      | succ k1 =>
        have H := HA.out
        clear HA
        simp only [spec_NumOrder.l0] at H
        by_cases c4 : x5_1 < (a0.size : Int)
        · rw [if_pos c4] at H
          have c4b0 : decide (x5_1 < (a0.size : Int)) = true := decide_eq_true c4
          clear c4
          by_cases c5 : 0 ≤ x5_1
          · rw [if_pos c5] at H
            have c5b0 : decide (0 ≤ x5_1) = true := decide_eq_true c5
            clear c5
            by_cases c7 : x5_1 < (a1.size : Int)
            · rw [if_pos c7] at H
              have c7b0 : decide (x5_1 < (a1.size : Int)) = true := decide_eq_true c7
              clear c7
              by_cases c9 : (bt a0 x5_1) = (bt a1 x5_1)
              · rw [if_pos c9] at H
                have c9b0 : ((bt a0 x5_1) == (bt a1 x5_1)) = true := beq_iff_eq.mpr c9
                have c9b1 : ((bt a0 x5_1) != (bt a1 x5_1)) = false := bne_eq_false_iff_eq.mpr c9
                clear c9
                have H' := Aside0.mk H
                clear H
                have p6 : 0 ≤ (x5_1 : Int) := of_decide_eq_true (by first | (with_reducible assumption) | assumption)
                have q6 : x5_1 < (a0.size : Int) := of_decide_eq_true (by first | (with_reducible assumption) | assumption)
                have hx6 := bt_at a0 x5_1
                replace p6 := eq_true p6
                replace q6 := eq_true q6
                have p8 : 0 ≤ (x5_1 : Int) := of_decide_eq_true (by first | (with_reducible assumption) | assumption)
                have q8 : x5_1 < (a1.size : Int) := of_decide_eq_true (by first | (with_reducible assumption) | assumption)
                have hx8 := bt_at a1 x5_1
                replace p8 := eq_true p8
                replace q8 := eq_true q8
                go_wp2
                repeat (go_quiet (fail); try go_wp2)
                go_roundg k1
                case measure => have := HK1.out; omega
                case rel => exact ⟨(wrap64 (x5_1 + 1)), (by first | rfl | (simp; done) | (simp [*]; done)), H', ⟨by have := HK1.out; omega⟩, by repeat (first | exact Drawn0.refl _ | apply Drawn0.step)⟩
              · rw [if_neg c9] at H
                have c9b0 : ((bt a0 x5_1) == (bt a1 x5_1)) = false := beq_eq_false_iff_ne.mpr c9
                have c9b1 : ((bt a0 x5_1) != (bt a1 x5_1)) = true := bne_iff_ne.mpr c9
                by_cases c12 : (bt a0 x5_1) < (bt a1 x5_1)
                · rw [if_pos c12] at H
                  have c12b0 : decide ((bt a0 x5_1) < (bt a1 x5_1)) = true := decide_eq_true c12
                  clear c12
                  obtain rfl := Option.some.inj H
                  have p6 : 0 ≤ (x5_1 : Int) := of_decide_eq_true (by first | (with_reducible assumption) | assumption)
                  have q6 : x5_1 < (a0.size : Int) := of_decide_eq_true (by first | (with_reducible assumption) | assumption)
                  have hx6 := bt_at a0 x5_1
                  replace p6 := eq_true p6
                  replace q6 := eq_true q6
                  have p8 : 0 ≤ (x5_1 : Int) := of_decide_eq_true (by first | (with_reducible assumption) | assumption)
                  have q8 : x5_1 < (a1.size : Int) := of_decide_eq_true (by first | (with_reducible assumption) | assumption)
                  have hx8 := bt_at a1 x5_1
                  replace p8 := eq_true p8
                  replace q8 := eq_true q8
                  have p10 : 0 ≤ (x5_1 : Int) := of_decide_eq_true (by first | (with_reducible assumption) | assumption)
                  have q10 : x5_1 < (a0.size : Int) := of_decide_eq_true (by first | (with_reducible assumption) | assumption)
                  have hx10 := bt_at a0 x5_1
                  replace p10 := eq_true p10
                  replace q10 := eq_true q10
                  have p11 : 0 ≤ (x5_1 : Int) := of_decide_eq_true (by first | (with_reducible assumption) | assumption)
                  have q11 : x5_1 < (a1.size : Int) := of_decide_eq_true (by first | (with_reducible assumption) | assumption)
                  have hx11 := bt_at a1 x5_1
                  replace p11 := eq_true p11
                  replace q11 := eq_true q11
                  go_wp2
                  repeat (go_quiet (fail); try go_wp2)
                  go_ret
                  exact ⟨by first | rfl | (simp; done) | (simp [*]; done), by repeat (first | exact Drawn0.refl _ | apply Drawn0.step)⟩
                · rw [if_neg c12] at H
                  have c12b0 : decide ((bt a0 x5_1) < (bt a1 x5_1)) = false := decide_eq_false c12
                  clear c12
                  obtain rfl := Option.some.inj H
                  have p6 : 0 ≤ (x5_1 : Int) := of_decide_eq_true (by first | (with_reducible assumption) | assumption)
                  have q6 : x5_1 < (a0.size : Int) := of_decide_eq_true (by first | (with_reducible assumption) | assumption)
                  have hx6 := bt_at a0 x5_1
                  replace p6 := eq_true p6
                  replace q6 := eq_true q6
                  have p8 : 0 ≤ (x5_1 : Int) := of_decide_eq_true (by first | (with_reducible assumption) | assumption)
                  have q8 : x5_1 < (a1.size : Int) := of_decide_eq_true (by first | (with_reducible assumption) | assumption)
                  have hx8 := bt_at a1 x5_1
                  replace p8 := eq_true p8
                  replace q8 := eq_true q8
                  have p10 : 0 ≤ (x5_1 : Int) := of_decide_eq_true (by first | (with_reducible assumption) | assumption)
                  have q10 : x5_1 < (a0.size : Int) := of_decide_eq_true (by first | (with_reducible assumption) | assumption)
                  have hx10 := bt_at a0 x5_1
                  replace p10 := eq_true p10
                  replace q10 := eq_true q10
                  have p11 : 0 ≤ (x5_1 : Int) := of_decide_eq_true (by first | (with_reducible assumption) | assumption)
                  have q11 : x5_1 < (a1.size : Int) := of_decide_eq_true (by first | (with_reducible assumption) | assumption)
                  have hx11 := bt_at a1 x5_1
                  replace p11 := eq_true p11
                  replace q11 := eq_true q11
                  go_wp2
                  repeat (go_quiet (fail); try go_wp2)
                  go_ret
                  exact ⟨by first | rfl | (simp; done) | (simp [*]; done), by repeat (first | exact Drawn0.refl _ | apply Drawn0.step)⟩
            · rw [if_neg c7] at H
              exact absurd H (by simp)
          · rw [if_neg c5] at H
            exact absurd H (by simp)
        · rw [if_neg c4] at H
          have c4b0 : decide (x5_1 < (a0.size : Int)) = false := decide_eq_false c4
          clear c4
          obtain rfl := Option.some.inj H
          go_wp2
          repeat (go_quiet (fail); try go_wp2)
          go_ret
          exact ⟨by first | rfl | (simp; done) | (simp [*]; done), by repeat (first | exact Drawn0.refl _ | apply Drawn0.step)⟩
  · rw [if_neg c3] at H
    have c3b0 : ((a0.size : Int) == (a1.size : Int)) = false := beq_eq_false_iff_ne.mpr c3
    have c3b1 : ((a0.size : Int) != (a1.size : Int)) = true := bne_iff_ne.mpr c3
    have c3b2 : (a0.size == a1.size) = false := by first | simpa using c3 | (simp at c3 ⊢; omega)
    by_cases c13 : (a0.size : Int) < (a1.size : Int)
    · rw [if_pos c13] at H
      have c13b0 : decide ((a0.size : Int) < (a1.size : Int)) = true := decide_eq_true c13
      have c13b1 : decide (a0.size < a1.size) = true := decide_eq_true (Int.ofNat_lt.mp c13)
      clear c13
      obtain rfl := Option.some.inj H
      go_enter Try.func22, Try.ntmps22
      go_wp2
      repeat (go_quiet (fail); try go_wp2)
      go_ret
      exact ⟨by first | rfl | (simp; done) | (simp [*]; done), by repeat (first | exact Drawn0.refl _ | apply Drawn0.step)⟩
    · rw [if_neg c13] at H
      have c13b0 : decide ((a0.size : Int) < (a1.size : Int)) = false := decide_eq_false c13
      have c13b1 : decide (a0.size < a1.size) = false := decide_eq_false (fun h => c13 (Int.ofNat_lt.mpr h))
      clear c13
      obtain rfl := Option.some.inj H
      go_enter Try.func22, Try.ntmps22
      go_wp2
      repeat (go_quiet (fail); try go_wp2)
      go_ret
      exact ⟨by first | rfl | (simp; done) | (simp [*]; done), by repeat (first | exact Drawn0.refl _ | apply Drawn0.step)⟩

/-! ### laws_FnResourceVersion: function 5 -/
def laws_FnResourceVersion.j0 : Nat → ByteArray → ByteArray → Bool → Option (Bool)
  | 0, _, _, _ => none
  | k + 1, x0, x1, x14 => if x14 = true then (some true) else ((impl_ResourceVersionCompare.f x0 x1).bind fun bt102 => ((spec_NumPositive.f k x0).bind fun t104 => (if t104 = true then ((spec_NumPositive.f k x1).bind fun t105 => (if t105 = true then (if bt102.2 = true then ((spec_NumOrder.f k x0 x1).bind fun t106 => (some (bt102.1 == t106))) else (some false)) else (some (!bt102.2)))) else (some (!bt102.2)))))
def laws_FnResourceVersion.f (k : Nat) (a0 : ByteArray) (a1 : ByteArray) : Option (Bool) := if (a0.size : Int) > 2147483647 then (laws_FnResourceVersion.j0 k a0 a1 true) else (laws_FnResourceVersion.j0 k a0 a1 (decide ((a1.size : Int) > 2147483647)))
theorem laws_FnResourceVersion.mono_l : ∀ k, (∀ y0 y1 y2, LeO (laws_FnResourceVersion.j0 k y0 y1 y2) (laws_FnResourceVersion.j0 (k + 1) y0 y1 y2))
  | 0 => fun _ _ _ r h => by simp [laws_FnResourceVersion.j0] at h
  | k + 1 => by
    have ih0 := laws_FnResourceVersion.mono_l k
    · intro y0 y1 y2
      unfold laws_FnResourceVersion.j0
      repeat' first
      | (with_reducible exact ih0 _ _ _)
      | (with_reducible exact spec_NumOrder.mono _ _ _)
      | (with_reducible exact spec_NumPositive.mono _ _)
      | (with_reducible exact LeO.refl _)
      | (with_reducible exact LeO.none _)
      | (with_reducible refine LeO.ite ?_ ?_)
      | (with_reducible refine LeO.bind ?_ (fun _ => ?_))
      | exact ih0 _ _ _
      | exact spec_NumOrder.mono _ _ _
      | exact spec_NumPositive.mono _ _
      | exact LeO.none _
      | refine LeO.ite ?_ ?_
      | refine LeO.bind ?_ (fun _ => ?_)
theorem laws_FnResourceVersion.mono : ∀ a0 a1 k, LeO (laws_FnResourceVersion.f k a0 a1) (laws_FnResourceVersion.f (k + 1) a0 a1) := by
  intro a0 a1 k
  have ih0 := laws_FnResourceVersion.mono_l k
  unfold laws_FnResourceVersion.f
  repeat' first
      | (with_reducible exact ih0 _ _ _)
      | (with_reducible exact spec_NumOrder.mono _ _ _)
      | (with_reducible exact spec_NumPositive.mono _ _)
      | (with_reducible exact LeO.refl _)
      | (with_reducible exact LeO.none _)
      | (with_reducible refine LeO.ite ?_ ?_)
      | (with_reducible refine LeO.bind ?_ (fun _ => ?_))
      | exact ih0 _ _ _
      | exact spec_NumOrder.mono _ _ _
      | exact spec_NumPositive.mono _ _
      | exact LeO.none _
      | refine LeO.ite ?_ ?_
      | refine LeO.bind ?_ (fun _ => ?_)
set_option maxHeartbeats 8000000 in
set_option maxRecDepth 100000 in
theorem laws_FnResourceVersion.calls (k : Nat) (a0 : ByteArray) (a1 : ByteArray) (r : Bool) (w : World) (h : laws_FnResourceVersion.f k a0 a1 = some r) :
    Calls Try.prog 5 #[.string a0, .string a1] w fun e w' => e = .returned (.bool r) ∧ Below w.heap.size w w' := by
  have HB := Aside0.mk (Below.refl w.heap.size w)
  have H : (if (a0.size : Int) > 2147483647 then (laws_FnResourceVersion.j0 k a0 a1 true) else (laws_FnResourceVersion.j0 k a0 a1 (decide ((a1.size : Int) > 2147483647)))) = some r := h
  clear h
  have HC3 := Aside0.mk H
  clear H
  go_enter Try.func5, Try.ntmps5
  go_upto_region 1 with (fail)
  go_cut [14] (fun v14 wc => ∃ (kq : Nat) (x14_2 : Bool), v14 = .bool x14_2 ∧ Aside0 (laws_FnResourceVersion.j0 kq a0 a1 x14_2 = some r) ∧ Aside0 (kq ≤ k) ∧ Aside0 (Below w.heap.size w wc))
  case first =>
    have H := HC3.out
    clear HC3
    by_cases c4 : (a0.size : Int) > 2147483647
    · rw [if_pos c4] at H
      have c4b0 : decide (2147483647 < (a0.size : Int)) = true := decide_eq_true c4
      have c4b1 : decide (2147483647 < a0.size) = true := decide_eq_true (by omega)
      clear c4
      (first | rw [c4b0] | (simp only [i64_w, i32_w]; rw [c4b0]) | skip)
      have H' := Aside0.mk H
      clear H
      go_wp2
      go_meet
      case rel => exact ⟨_, (true), (by first | rfl | (simp; done) | (simp [*]; done)), H', ⟨by first | omega | exact Nat.le_refl _⟩, ⟨by repeat (first | (with_reducible first | exact HB.out | apply below_alloc | apply pw_below_drewN | apply below_drew1) | exact HB.out)⟩⟩
    · rw [if_neg c4] at H
      have c4b0 : decide (2147483647 < (a0.size : Int)) = false := decide_eq_false c4
      have c4b1 : decide (2147483647 < a0.size) = false := decide_eq_false (by omega)
      clear c4
      (first | rw [c4b0] | (simp only [i64_w, i32_w]; rw [c4b0]) | skip)
      have H' := Aside0.mk H
      clear H
      go_wp2
      go_meet
      case rel => exact ⟨_, (decide ((a1.size : Int) > 2147483647)), (by first | rfl | (simp; done) | (simp [*]; done)), H', ⟨by first | omega | exact Nat.le_refl _⟩, ⟨by repeat (first | (with_reducible first | exact HB.out | apply below_alloc | apply pw_below_drewN | apply below_drew1) | exact HB.out)⟩⟩
  case rest =>
    clear HC3
    try clear p2
    try clear c4
    try clear c4b0
    try clear c4b1
    obtain ⟨kq, x14_2, rfl, HA, HJ2, HB⟩ := hcut
    cases kq with
    | zero => exact absurd HA.out (by simp [laws_FnResourceVersion.j0])
    | succ kj2 =>
      have H := HA.out
      clear HA
      simp only [laws_FnResourceVersion.j0] at H
      by_cases c5 : x14_2 = true
      · subst c5
        have H1 : (some true) = some r := by rw [if_pos rfl] at H; exact H
        clear H
        have H := H1
        clear H1
        obtain rfl := Option.some.inj H
        go_wp2
        go_ret
        exact ⟨by first | rfl | (simp [errW_none, errW_some] <;> rfl) | (simp [*, errW_none, errW_some] <;> rfl), by repeat (first | (with_reducible first | exact HB.out | apply below_alloc | apply pw_below_drewN | apply below_drew1) | exact HB.out)⟩
      · replace c5 := Bool.eq_false_iff.mpr c5
        subst c5
        have H1 : ((impl_ResourceVersionCompare.f a0 a1).bind fun bt102 => ((spec_NumPositive.f kj2 a0).bind fun t104 => (if t104 = true then ((spec_NumPositive.f kj2 a1).bind fun t105 => (if t105 = true then (if bt102.2 = true then ((spec_NumOrder.f kj2 a0 a1).bind fun t106 => (some (bt102.1 == t106))) else (some false)) else (some (!bt102.2)))) else (some (!bt102.2))))) = some r := by rw [if_neg (show ¬ (false = true) by decide)] at H; exact H
        clear H
        have H := H1
        clear H1
        replace H := Option.bind_eq_some_iff.mp H
        obtain ⟨⟨t102, t103⟩, A60, H⟩ := H
        replace H : ((spec_NumPositive.f kj2 a0).bind fun t104 => (if t104 = true then ((spec_NumPositive.f kj2 a1).bind fun t105 => (if t105 = true then (if t103 = true then ((spec_NumOrder.f kj2 a0 a1).bind fun t106 => (some (t102 == t106))) else (some false)) else (some (!t103)))) else (some (!t103)))) = some r := H
        have A6 := Aside0.mk A60
        clear A60
        replace H := Option.bind_eq_some_iff.mp H
        obtain ⟨t104, A70, H⟩ := H
        replace H : (if t104 = true then ((spec_NumPositive.f kj2 a1).bind fun t105 => (if t105 = true then (if t103 = true then ((spec_NumOrder.f kj2 a0 a1).bind fun t106 => (some (t102 == t106))) else (some false)) else (some (!t103)))) else (some (!t103))) = some r := H
        have A7 := Aside0.mk A70
        clear A70
        by_cases c8 : t104 = true
        · subst c8
          have H1 : ((spec_NumPositive.f kj2 a1).bind fun t105 => (if t105 = true then (if t103 = true then ((spec_NumOrder.f kj2 a0 a1).bind fun t106 => (some (t102 == t106))) else (some false)) else (some (!t103)))) = some r := by rw [if_pos rfl] at H; exact H
          clear H
          have H := H1
          clear H1
          replace H := Option.bind_eq_some_iff.mp H
          obtain ⟨t105, A90, H⟩ := H
          replace H : (if t105 = true then (if t103 = true then ((spec_NumOrder.f kj2 a0 a1).bind fun t106 => (some (t102 == t106))) else (some false)) else (some (!t103))) = some r := H
          have A9 := Aside0.mk A90
          clear A90
          by_cases c10 : t105 = true
          · subst c10
            have H1 : (if t103 = true then ((spec_NumOrder.f kj2 a0 a1).bind fun t106 => (some (t102 == t106))) else (some false)) = some r := by rw [if_pos rfl] at H; exact H
            clear H
            have H := H1
            clear H1
            by_cases c11 : t103 = true
            · subst c11
              have H1 : ((spec_NumOrder.f kj2 a0 a1).bind fun t106 => (some (t102 == t106))) = some r := by rw [if_pos rfl] at H; exact H
              clear H
              have H := H1
              clear H1
              replace H := Option.bind_eq_some_iff.mp H
              obtain ⟨t106, A120, H⟩ := H
              replace H : (some (t102 == t106)) = some r := H
              have A12 := Aside0.mk A120
              clear A120
              obtain rfl := Option.some.inj H
              go_wp2_with (first | ((with_reducible refine gate_callee (f := 20) rfl ?_); refine goesL_ (some 18) rfl rfl Try.func20 (by kernel_rfl) rfl #[.string a0, .string a1] rfl (by (try simp only [List.map_toArray, List.map_cons, List.map_nil]); first | done | rfl | (simp only [List.length_drop, List.length_take]; rfl)) ?_; (with_reducible refine (impl_ResourceVersionCompare.calls a0 a1 t102 true _ A6.out).mono ?_); rintro e w13 ⟨rfl, hb⟩; refine ⟨_, rfl, ?_⟩; have n0_ := Aside0.mk (below_step (by repeat (first | (with_reducible first | exact HB.out | apply below_alloc | apply pw_below_drewN | apply below_drew1) | exact HB.out)) hb); clear HB; have HB := n0_; clear n0_; (try clear hb); (try clear hb2); (try clear hk); (try clear hi)) | ((with_reducible refine gate_callee (f := 21) rfl ?_); refine goesL_ (some 22) rfl rfl Try.func21 (by kernel_rfl) rfl #[.string a0] rfl (by (try simp only [List.map_toArray, List.map_cons, List.map_nil]); first | done | rfl | (simp only [List.length_drop, List.length_take]; rfl)) ?_; (with_reducible refine (spec_NumPositive.calls kj2 a0 true _ A7.out).mono ?_); rintro e w' ⟨rfl, ⟨nd, rfl⟩⟩; refine ⟨_, rfl, ?_⟩) | (go_at_call 21; (with_reducible refine (spec_NumPositive.calls kj2 a1 true _ A9.out).mono ?_); rintro e w' ⟨rfl, ⟨nd, rfl⟩⟩) | (go_at_call 22; (with_reducible refine (spec_NumOrder.calls kj2 a0 a1 t106 _ A12.out).mono ?_); rintro e w' ⟨rfl, ⟨nd, rfl⟩⟩))
              go_ret
              exact ⟨by first | rfl | (simp [errW_none, errW_some] <;> rfl) | (simp [*, errW_none, errW_some] <;> rfl), by repeat (first | (with_reducible first | exact HB.out | apply below_alloc | apply pw_below_drewN | apply below_drew1) | exact HB.out)⟩
            · replace c11 := Bool.eq_false_iff.mpr c11
              subst c11
              have H1 : (some false) = some r := by rw [if_neg (show ¬ (false = true) by decide)] at H; exact H
              clear H
              have H := H1
              clear H1
              obtain rfl := Option.some.inj H
              go_wp2_with (first | ((with_reducible refine gate_callee (f := 20) rfl ?_); refine goesL_ (some 18) rfl rfl Try.func20 (by kernel_rfl) rfl #[.string a0, .string a1] rfl (by (try simp only [List.map_toArray, List.map_cons, List.map_nil]); first | done | rfl | (simp only [List.length_drop, List.length_take]; rfl)) ?_; (with_reducible refine (impl_ResourceVersionCompare.calls a0 a1 t102 false _ A6.out).mono ?_); rintro e w14 ⟨rfl, hb⟩; refine ⟨_, rfl, ?_⟩; have n0_ := Aside0.mk (below_step (by repeat (first | (with_reducible first | exact HB.out | apply below_alloc | apply pw_below_drewN | apply below_drew1) | exact HB.out)) hb); clear HB; have HB := n0_; clear n0_; (try clear hb); (try clear hb2); (try clear hk); (try clear hi)) | ((with_reducible refine gate_callee (f := 21) rfl ?_); refine goesL_ (some 22) rfl rfl Try.func21 (by kernel_rfl) rfl #[.string a0] rfl (by (try simp only [List.map_toArray, List.map_cons, List.map_nil]); first | done | rfl | (simp only [List.length_drop, List.length_take]; rfl)) ?_; (with_reducible refine (spec_NumPositive.calls kj2 a0 true _ A7.out).mono ?_); rintro e w' ⟨rfl, ⟨nd, rfl⟩⟩; refine ⟨_, rfl, ?_⟩) | (go_at_call 21; (with_reducible refine (spec_NumPositive.calls kj2 a1 true _ A9.out).mono ?_); rintro e w' ⟨rfl, ⟨nd, rfl⟩⟩))
              go_ret
              exact ⟨by first | rfl | (simp [errW_none, errW_some] <;> rfl) | (simp [*, errW_none, errW_some] <;> rfl), by repeat (first | (with_reducible first | exact HB.out | apply below_alloc | apply pw_below_drewN | apply below_drew1) | exact HB.out)⟩
          · replace c10 := Bool.eq_false_iff.mpr c10
            subst c10
            have H1 : (some (!t103)) = some r := by rw [if_neg (show ¬ (false = true) by decide)] at H; exact H
            clear H
            have H := H1
            clear H1
            obtain rfl := Option.some.inj H
            go_wp2_with (first | ((with_reducible refine gate_callee (f := 20) rfl ?_); refine goesL_ (some 18) rfl rfl Try.func20 (by kernel_rfl) rfl #[.string a0, .string a1] rfl (by (try simp only [List.map_toArray, List.map_cons, List.map_nil]); first | done | rfl | (simp only [List.length_drop, List.length_take]; rfl)) ?_; (with_reducible refine (impl_ResourceVersionCompare.calls a0 a1 t102 t103 _ A6.out).mono ?_); rintro e w15 ⟨rfl, hb⟩; refine ⟨_, rfl, ?_⟩; have n0_ := Aside0.mk (below_step (by repeat (first | (with_reducible first | exact HB.out | apply below_alloc | apply pw_below_drewN | apply below_drew1) | exact HB.out)) hb); clear HB; have HB := n0_; clear n0_; (try clear hb); (try clear hb2); (try clear hk); (try clear hi)) | ((with_reducible refine gate_callee (f := 21) rfl ?_); refine goesL_ (some 22) rfl rfl Try.func21 (by kernel_rfl) rfl #[.string a0] rfl (by (try simp only [List.map_toArray, List.map_cons, List.map_nil]); first | done | rfl | (simp only [List.length_drop, List.length_take]; rfl)) ?_; (with_reducible refine (spec_NumPositive.calls kj2 a0 true _ A7.out).mono ?_); rintro e w' ⟨rfl, ⟨nd, rfl⟩⟩; refine ⟨_, rfl, ?_⟩) | (go_at_call 21; (with_reducible refine (spec_NumPositive.calls kj2 a1 false _ A9.out).mono ?_); rintro e w' ⟨rfl, ⟨nd, rfl⟩⟩))
            go_ret
            exact ⟨by first | rfl | (simp [errW_none, errW_some] <;> rfl) | (simp [*, errW_none, errW_some] <;> rfl), by repeat (first | (with_reducible first | exact HB.out | apply below_alloc | apply pw_below_drewN | apply below_drew1) | exact HB.out)⟩
        · replace c8 := Bool.eq_false_iff.mpr c8
          subst c8
          have H1 : (some (!t103)) = some r := by rw [if_neg (show ¬ (false = true) by decide)] at H; exact H
          clear H
          have H := H1
          clear H1
          obtain rfl := Option.some.inj H
          go_wp2_with (first | ((with_reducible refine gate_callee (f := 20) rfl ?_); refine goesL_ (some 18) rfl rfl Try.func20 (by kernel_rfl) rfl #[.string a0, .string a1] rfl (by (try simp only [List.map_toArray, List.map_cons, List.map_nil]); first | done | rfl | (simp only [List.length_drop, List.length_take]; rfl)) ?_; (with_reducible refine (impl_ResourceVersionCompare.calls a0 a1 t102 t103 _ A6.out).mono ?_); rintro e w16 ⟨rfl, hb⟩; refine ⟨_, rfl, ?_⟩; have n0_ := Aside0.mk (below_step (by repeat (first | (with_reducible first | exact HB.out | apply below_alloc | apply pw_below_drewN | apply below_drew1) | exact HB.out)) hb); clear HB; have HB := n0_; clear n0_; (try clear hb); (try clear hb2); (try clear hk); (try clear hi)) | ((with_reducible refine gate_callee (f := 21) rfl ?_); refine goesL_ (some 22) rfl rfl Try.func21 (by kernel_rfl) rfl #[.string a0] rfl (by (try simp only [List.map_toArray, List.map_cons, List.map_nil]); first | done | rfl | (simp only [List.length_drop, List.length_take]; rfl)) ?_; (with_reducible refine (spec_NumPositive.calls kj2 a0 false _ A7.out).mono ?_); rintro e w' ⟨rfl, ⟨nd, rfl⟩⟩; refine ⟨_, rfl, ?_⟩))
          go_ret
          exact ⟨by first | rfl | (simp [errW_none, errW_some] <;> rfl) | (simp [*, errW_none, errW_some] <;> rfl), by repeat (first | (with_reducible first | exact HB.out | apply below_alloc | apply pw_below_drewN | apply below_drew1) | exact HB.out)⟩

/-- THE ONE PURE STATEMENT of laws_FnResourceVersion: yours. -/
def laws_FnResourceVersion.Pure : Prop := ∀ (a0 : ByteArray) (a1 : ByteArray), a0.size ≤ 140737488351232 → a1.size ≤ 140737488351232 → ∃ k, laws_FnResourceVersion.f k a0 a1 = some true
theorem laws_FnResourceVersion.walk (P : laws_FnResourceVersion.Pure) (a0 : ByteArray) (a1 : ByteArray) (w : World) (w0 : a0.size ≤ 140737488351232) (w1 : a1.size ≤ 140737488351232) :
    Calls Try.prog 5 #[.string a0, .string a1] w fun e w' => e = .returned (.bool true) ∧ Below w.heap.size w w' := by
  obtain ⟨k, h⟩ := P a0 a1 w0 w1
  refine (laws_FnResourceVersion.calls k a0 a1 true w h).mono ?_
  rintro e w' ⟨rfl, hd⟩
  exact ⟨rfl, hd⟩

end Go.Proofs.Ytpaihcikeieliaa.PFnResourceVersion
