/- Functions of the program as plain Lean functions, and that the machine's calls do what these say: written for this claim by wip/myprint.py over the kit's print.py. -/
import Derived.Test.YtmehecpmhijfmaaDoorPFnFieldParsex0
import Derived.Sort.Walk0
namespace Go.Proofs.YtmehecpmhijfmaaDoor.PFnFieldParse
open Go.RowKit Go.Proofs.YtmehecpmhijfmaaDoorW.PrintWords Go.Proofs.YtmehecpmhijfmaaDoorW.PrintLast Go.Proofs.YtmehecpmhijfmaaDoorW.PrintMore
attribute [local go_sem] max2_int min2_int max_two min_two max_three min_three max_four min_four   -- for this text's walks alone
set_option linter.unusedVariables false
set_option linter.unusedSimpArgs false

-- NOT PRINTED: function 4 (laws_plainText)

/-! ### fields_splitTerms: function 19 -/
def spl (s : ByteArray) : Nat → List ByteArray → Nat → Bool → Nat → Option (List ByteArray)
  | 0, _, _, _, _ => none
  | k + 1, ts, st, sl, pos =>
    if pos < s.size then
      if sl = true then spl s k ts st false (pos + (Utf8.decode s pos).2)
      else if (Utf8.decode s pos).1 = 92 then spl s k ts st true (pos + (Utf8.decode s pos).2)
      else if (Utf8.decode s pos).1 = 44 then (if st ≤ pos ∧ ts.length < 8796093022207 then spl s k (ts ++ [s.extract st pos]) (pos + 1) false (pos + (Utf8.decode s pos).2) else none)
      else spl s k ts st false (pos + (Utf8.decode s pos).2)
    else if st ≤ s.size ∧ ts.length < 8796093022207 then some (ts ++ [s.extract st s.size]) else none
theorem spl_mono (s : ByteArray) : ∀ k ts st sl pos, LeO (spl s k ts st sl pos) (spl s (k + 1) ts st sl pos) := by
  intro k
  induction k with
  | zero => intros; exact LeO.none _
  | succ k ih =>
    intro ts st sl pos
    show LeO (spl s (k + 1) ts st sl pos) (spl s (k + 1 + 1) ts st sl pos)
    unfold spl
    exact LeO.ite (LeO.ite (ih _ _ _ _) (LeO.ite (ih _ _ _ _) (LeO.ite (LeO.ite (ih _ _ _ _) (LeO.none _)) (ih _ _ _ _)))) (LeO.refl _)
def fields_splitTerms.f (k : Nat) (a0 : ByteArray) : Option (List ByteArray) := if a0.size = 0 then some [] else if a0.size ≤ 9223372036854775806 then spl a0 k [] 0 false 0 else none
theorem fields_splitTerms.mono : ∀ a0 k, LeO (fields_splitTerms.f k a0) (fields_splitTerms.f (k + 1) a0) := by
  intro a0 k
  unfold fields_splitTerms.f
  exact LeO.ite (LeO.refl _) (LeO.ite (spl_mono _ _ _ _ _ _) (LeO.refl _))
set_option maxHeartbeats 4000000 in
theorem fields_splitTerms.calls (k : Nat) (a0 : ByteArray) (r : List ByteArray) (w : World) (h : fields_splitTerms.f k a0 = some r) :
    Calls Tryd.prog 19 #[.string a0] w fun e w' => ∃ v0_ : Value, e = .returned (v0_) ∧ Kd.R Kd.string 9 w' w.heap.size (fun _ => True) v0_ r ∧ Below w.heap.size w w' := by
  unfold fields_splitTerms.f at h
  by_cases h0 : a0.size = 0
  · rw [if_pos h0] at h
    obtain rfl := Option.some.inj h
    have e0 : ((a0.size : Int) == 0) = true := beq_iff_eq.2 (by omega)
    clear h h0
    go_enter Tryd.func19, Tryd.ntmps19
    go_wp2_with fail
    go_ret
    exact ⟨_, rfl, Kd.R_nil _ _ _ _ _, Below.refl _ _⟩
  · rw [if_neg h0] at h
    have e0 : ((a0.size : Int) == 0) = false := beq_eq_false_iff_ne.2 (by omega)
    by_cases h1 : a0.size ≤ 9223372036854775806
    · rw [if_pos h1] at h
      have HS := Aside0.mk h1
      have H' := Aside0.mk h
      clear h h0 h1
      have hmk : ∀ w0 : World, (Instr.makeSlice 39 (.int .i64 0) (.int .i64 1)).run Tryd.prog w0 = .ok (.slice (some ⟨w0.heap.size, 0, none⟩) 0 1) (w0.alloc (.cells #[.string ⟨#[]⟩] 9)) := by
        intro w0
        obtain ⟨i0, hi, hzz⟩ := Option.map_eq_some_iff.1 info9
        simp only [Prod.mk.injEq] at hzz
        obtain ⟨hz0, hz1, hz2⟩ := hzz
        have := run_make (P := Tryd.prog) w0 39 9 i0 (.string ⟨#[]⟩) Tryd.underlying39 hi hz0 .i64 .i64 0 1 (by omega) (by omega) (by rw [hz2]; omega) (by omega)
        rw [this, hz1]; have ar : Array.range 1 = #[0] := (by decide); simp [madeCells, Value.cells, ar]
      have hmk' := hmk w
      clear hmk
      go_enter Tryd.func19, Tryd.ntmps19
      go_wp2_with fail
      have HR : Aside0 (Kd.R Kd.string 9 (w.alloc (.cells #[.string ⟨#[]⟩] 9)) w.heap.size (fun q => q ≠ w.heap.size + 1) (.slice (some ⟨w.heap.size, 0, none⟩) 0 1) []) := ⟨by
        refine ⟨fun q hq => by simp [Value.ownBlock] at hq; omega, [], ⟨rfl, Or.inr ⟨w.heap.size, 1, #[.string ⟨#[]⟩], rfl, Nat.le_refl _, blk_new w _, by simp, by decide, rfl, rfl⟩⟩, Reps.none _ _⟩⟩
      go_loopg [3, 4, 5] k (fun kq v3 v4 v5 w' => ∃ (xs : List ByteArray) (st : Nat) (sl : Bool) (pos : Nat), v4 = .int .i64 (st : Int) ∧ v5 = .bool sl ∧ Aside0 (spl a0 kq xs st sl pos = some r) ∧ Aside0 (kq ≤ k) ∧ Aside0 (Kd.R Kd.string 9 w' w.heap.size (fun q => q ≠ w.heap.size + 1) v3 xs) ∧ Aside0 (Below w.heap.size w w') ∧ Aside0 (w'.heap[w.heap.size + 1]? = some (.stringIter a0 pos)))
      case atStart => exact ⟨[], 0, false, 0, rfl, rfl, H', ⟨Nat.le_refl _⟩, ⟨Kd.R_alloc HR.out _⟩, ⟨below_alloc (below_alloc (Below.refl _ _) _) _⟩, ⟨by have h := World.iter_heap (w.alloc (.cells #[.string ⟨#[]⟩] 9)) a0 0; have e : (w.alloc (.cells #[.string ⟨#[]⟩] 9)).heap.size = w.heap.size + 1 := (by simp); rw [e] at h; exact h⟩⟩
      case round =>
        clear H' HR hmk'
        obtain ⟨xs, st, sl, pos, rfl, rfl, HA, HK1, HR, HB, HI⟩ := hrel
        cases gk with
        | zero => exact absurd HA.out (by simp [spl])
        | succ k1 =>
          have H := HA.out
          clear HA
          simp only [spl] at H
          have IL : Aside0 (w.heap.size + 1 < wr.heap.size) := ⟨blk_lt HI.out⟩
          by_cases c1 : pos < a0.size
          · rw [if_pos c1] at H
            have hnx := fun ty => Lib.run_next_any_at (P := Tryd.prog) wr (w.heap.size + 1) a0 pos ty HI.out c1
            have RI : Aside0 (Kd.R Kd.string 9 (wr.iterAt (w.heap.size + 1) a0 (pos + (Utf8.decode a0 pos).2)) w.heap.size (fun q => q ≠ w.heap.size + 1) u3 xs) := ⟨Kd.R_step HR.out (fun q hq _ => Lib.iterAt_other wr _ q _ _ hq)⟩
            have BI : Aside0 (Below w.heap.size w (wr.iterAt (w.heap.size + 1) a0 (pos + (Utf8.decode a0 pos).2))) := ⟨Lib.below_iterAt HB.out (Nat.le_succ _) _ _⟩
            have II : Aside0 ((wr.iterAt (w.heap.size + 1) a0 (pos + (Utf8.decode a0 pos).2)).heap[w.heap.size + 1]? = some (.stringIter a0 (pos + (Utf8.decode a0 pos).2))) := ⟨Lib.iterAt_heap _ _ _ _ _ HI.out⟩
            have ZL : Aside0 (w.heap.size + 1 < (wr.iterAt (w.heap.size + 1) a0 (pos + (Utf8.decode a0 pos).2)).heap.size) := ⟨blk_lt II.out⟩
            clear HR HB HI
            cases sl with
            | true =>
              rw [if_pos rfl] at H
              have H' := Aside0.mk H
              clear H
              go_wp2_with fail
              go_roundg k1
              case measure => have := HK1.out; omega
              case rel => exact ⟨xs, st, false, _, rfl, rfl, H', ⟨by have := HK1.out; omega⟩, ⟨RI.out⟩, ⟨BI.out⟩, ⟨II.out⟩⟩
            | false =>
              rw [if_neg (by simp)] at H
              by_cases c2 : (Utf8.decode a0 pos).1 = 92
              · rw [if_pos c2] at H
                have H' := Aside0.mk H
                clear H
                have e2 : (((Utf8.decode a0 pos).1 : Int) == 92) = true := beq_iff_eq.2 (by omega)
                clear c2
                go_wp2_with fail
                go_roundg k1
                case measure => have := HK1.out; omega
                case rel => exact ⟨xs, st, true, _, rfl, rfl, H', ⟨by have := HK1.out; omega⟩, ⟨RI.out⟩, ⟨BI.out⟩, ⟨II.out⟩⟩
              · rw [if_neg c2] at H
                have e2 : (((Utf8.decode a0 pos).1 : Int) == 92) = false := beq_eq_false_iff_ne.2 (by omega)
                clear c2
                by_cases c3 : (Utf8.decode a0 pos).1 = 44
                · rw [if_pos c3] at H
                  have e3 : (((Utf8.decode a0 pos).1 : Int) == 44) = true := beq_iff_eq.2 (by omega)
                  clear c3
                  by_cases c4 : st ≤ pos ∧ xs.length < 8796093022207
                  · rw [if_pos c4] at H
                    have H' := Aside0.mk H
                    clear H
                    have LM : Aside0 (xs.length < 8796093022207) := ⟨c4.2⟩
                    have p1 : (0 ≤ (st : Int)) = True := eq_true (by omega)
                    have p2 : ((st : Int) ≤ (pos : Int)) = True := eq_true (by omega)
                    have p3 : ((pos : Int) ≤ (a0.size : Int)) = True := eq_true (by omega)
                    have p4 : st ≤ pos := c4.1
                    have p5 : pos ≤ a0.size := by omega
                    have hw : wrap64 ((pos : Int) + 1) = ((pos + 1 : Nat) : Int) := by have := HS.out; simp only [wrap64]; omega
                    have hw' := Aside0.mk hw
                    clear c4 hw
                    obtain ⟨Ao, co, eo⟩ := Kd.R_slice RI.out
                    subst eo
                    go_wp2_with (first | ((with_reducible refine gate_builtin (b := .append) (xs := #[.tmp 26, .tmp 31]) rfl ?_); at_builtin; refine Kd.R_append Kd.string (w0 := w) w.heap.size rfl (.tmp 26) (.tmp 31) 39 9 (.string ⟨#[]⟩) 16 rfl Tryd.underlying39 info9 rfl (by decide) (by omega) (.slice Ao xs.length co) xs (a0.extract st pos) [.string (a0.extract st pos)] (fun q => q ≠ w.heap.size + 1) (fun _ => False) rfl rfl ?aP (fun _ hk => hk.elim) ?aF ?aO ?aB ?aS ?aL ?_; (case aP => exact rfl); (case aB => exact BI.out); (case aF => intro q hq; have z1 := ZL.out; omega); (case aO => exact RI.out); (case aS => exact below_size BI.out); (case aL => have := LM.out; omega); intro v9 w9 ho hb hg hat))
                    have RO := Aside0.mk ho
                    have BO := Aside0.mk hb
                    have IO : Aside0 (w9.heap[w.heap.size + 1]? = some (.stringIter a0 (pos + (Utf8.decode a0 pos).2))) := ⟨blk_grown II.out hg (Kd.R_away RI.out (fun q hq => hq)).symm.symm⟩
                    clear ho hb hg hat RI BI II
                    go_wp2_with fail
                    rw [hw'.out]
                    go_roundg k1
                    case measure => have := HK1.out; omega
                    case rel => exact ⟨_, pos + 1, false, _, rfl, rfl, H', ⟨by have := HK1.out; omega⟩, RO, BO, IO⟩
                  · rw [if_neg c4] at H
                    simp at H
                · rw [if_neg c3] at H
                  have H' := Aside0.mk H
                  clear H
                  have e3 : (((Utf8.decode a0 pos).1 : Int) == 44) = false := beq_eq_false_iff_ne.2 (by omega)
                  clear c3
                  go_wp2_with fail
                  go_roundg k1
                  case measure => have := HK1.out; omega
                  case rel => exact ⟨xs, st, false, _, rfl, rfl, H', ⟨by have := HK1.out; omega⟩, ⟨RI.out⟩, ⟨BI.out⟩, ⟨II.out⟩⟩
          · rw [if_neg c1] at H
            have hnx := fun ty => Lib.run_next_end_at (P := Tryd.prog) wr (w.heap.size + 1) a0 pos ty HI.out c1
            by_cases c4 : st ≤ a0.size ∧ xs.length < 8796093022207
            · rw [if_pos c4] at H
              obtain rfl := Option.some.inj H
              clear H
              have LM : Aside0 (xs.length < 8796093022207) := ⟨c4.2⟩
              have p1 : (0 ≤ (st : Int)) = True := eq_true (by omega)
              have p2 : ((st : Int) ≤ (a0.size : Int)) = True := eq_true (by omega)
              have p4 : st ≤ a0.size := c4.1
              clear c4
              obtain ⟨Ao, co, eo⟩ := Kd.R_slice HR.out
              subst eo
              go_wp2_with (first | ((with_reducible refine gate_builtin (b := .append) (xs := #[.tmp 35, .tmp 39]) rfl ?_); at_builtin; refine Kd.R_append Kd.string (w0 := w) w.heap.size rfl (.tmp 35) (.tmp 39) 39 9 (.string ⟨#[]⟩) 16 rfl Tryd.underlying39 info9 rfl (by decide) (by omega) (.slice Ao xs.length co) xs (a0.extract st a0.size) [.string (a0.extract st a0.size)] (fun q => q ≠ w.heap.size + 1) (fun _ => False) rfl rfl ?aP (fun _ hk => hk.elim) ?aF ?aO ?aB ?aS ?aL ?_; (case aP => exact rfl); (case aB => exact HB.out); (case aF => intro q hq; have z1 := IL.out; omega); (case aO => exact HR.out); (case aS => exact below_size HB.out); (case aL => have := LM.out; omega); intro v9 w9 ho hb hg hat))
              have RO := Aside0.mk ho
              have BO := Aside0.mk hb
              clear ho hb hg hat HR HB HI
              go_wp2_with fail
              go_ret
              exact ⟨_, rfl, Kd.R_mono RO.out (fun _ _ => trivial), BO.out⟩
            · rw [if_neg c4] at H
              simp at H
    · rw [if_neg h1] at h
      simp at h
-- NOT PRINTED: function 39 (bits_Len32)

-- NOT PRINTED: function 40 (bits_Len64)

-- NOT PRINTED: function 31 (bits_Len)

-- NOT PRINTED: function 41 (sort_insertionSort)

-- NOT PRINTED: function 53 (sort_siftDown)

-- NOT PRINTED: function 42 (sort_heapSort)

-- NOT PRINTED: function 54 (sort_nextPowerOfTwo)

-- NOT PRINTED: function 55 (sort_xorshift_Next)

-- NOT PRINTED: function 43 (sort_breakPatterns)

-- NOT PRINTED: function 59 (sort_order2)

-- NOT PRINTED: function 57 (sort_median)

-- NOT PRINTED: function 56 (sort_medianAdjacent)

-- NOT PRINTED: function 44 (sort_choosePivot)

-- NOT PRINTED: function 45 (sort_reverseRange)

-- NOT PRINTED: function 46 (sort_partialInsertionSort)

-- NOT PRINTED: function 47 (sort_partitionEqual)

-- NOT PRINTED: function 48 (sort_partition)

-- NOT PRINTED: function 32 (sort_pdqsort)

-- NOT PRINTED: function 25 (sort_Sort)

-- NOT PRINTED: function 20 (sort_StringSlice_Sort)

/-! ### stringslite_HasPrefix: function 33 -/
def stringslite_HasPrefix.f (a0 : ByteArray) (a1 : ByteArray) : Option (Bool) := if (a0.size : Int) ≥ (a1.size : Int) then (if 0 ≤ (a1.size : Int) then (if (a1.size : Int) ≤ (a0.size : Int) then (some ((a0.extract 0 ((a1.size : Int) : Int).toNat).toList == a1.toList)) else (none)) else (none)) else (some false)
set_option maxHeartbeats 8000000 in
set_option maxRecDepth 100000 in
theorem stringslite_HasPrefix.calls (a0 : ByteArray) (a1 : ByteArray) (r : Bool) (w : World) (h : stringslite_HasPrefix.f a0 a1 = some r) :
    Calls Tryd.prog 33 #[.string a0, .string a1] w fun e w' => e = .returned (.bool r) ∧ Drawn0 w w' := by
  have H : (if (a0.size : Int) ≥ (a1.size : Int) then (if 0 ≤ (a1.size : Int) then (if (a1.size : Int) ≤ (a0.size : Int) then (some ((a0.extract 0 ((a1.size : Int) : Int).toNat).toList == a1.toList)) else (none)) else (none)) else (some false)) = some r := h
  clear h
  by_cases c3 : (a0.size : Int) ≥ (a1.size : Int)
  · rw [if_pos c3] at H
    have c3b0 : decide ((a1.size : Int) ≤ (a0.size : Int)) = true := decide_eq_true c3
    have c3b1 : decide (a1.size ≤ a0.size) = true := decide_eq_true (Int.ofNat_le.mp c3)
    clear c3
    by_cases c4 : 0 ≤ (a1.size : Int)
    · rw [if_pos c4] at H
      have c4b0 := eq_true c4
      have c4b1 : decide (0 ≤ (a1.size : Int)) = true := decide_eq_true c4
      clear c4
      by_cases c5 : (a1.size : Int) ≤ (a0.size : Int)
      · rw [if_pos c5] at H
        have c5b0 := eq_true c5
        have c5b1 : decide ((a1.size : Int) ≤ (a0.size : Int)) = true := decide_eq_true c5
        clear c5
        obtain rfl := Option.some.inj H
        go_enter Tryd.func33, Tryd.ntmps33
        go_wp2
        go_ret
        exact ⟨by first | rfl | (simp; done) | (simp [*]; done), by repeat (first | exact Drawn0.refl _ | apply Drawn0.step)⟩
      · rw [if_neg c5] at H
        exact absurd H (by simp)
    · rw [if_neg c4] at H
      exact absurd H (by simp)
  · rw [if_neg c3] at H
    have c3b0 : decide ((a1.size : Int) ≤ (a0.size : Int)) = false := decide_eq_false c3
    have c3b1 : decide (a1.size ≤ a0.size) = false := decide_eq_false (fun h => c3 (Int.ofNat_le.mpr h))
    clear c3
    obtain rfl := Option.some.inj H
    go_enter Tryd.func33, Tryd.ntmps33
    go_wp2
    go_ret
    exact ⟨by first | rfl | (simp; done) | (simp [*]; done), by repeat (first | exact Drawn0.refl _ | apply Drawn0.step)⟩

/-! ### strings_HasPrefix: function 26 -/
def strings_HasPrefix.f (a0 : ByteArray) (a1 : ByteArray) : Option (Bool) := (stringslite_HasPrefix.f a0 a1).bind fun t101 => (some t101)
set_option maxHeartbeats 8000000 in
set_option maxRecDepth 100000 in
theorem strings_HasPrefix.calls (a0 : ByteArray) (a1 : ByteArray) (r : Bool) (w : World) (h : strings_HasPrefix.f a0 a1 = some r) :
    Calls Tryd.prog 26 #[.string a0, .string a1] w fun e w' => e = .returned (.bool r) ∧ Drawn0 w w' := by
  have H : ((stringslite_HasPrefix.f a0 a1).bind fun t101 => (some t101)) = some r := h
  clear h
  replace H := Option.bind_eq_some_iff.mp H
  obtain ⟨t101, A30, H⟩ := H
  replace H : (some t101) = some r := H
  have A3 := Aside0.mk A30
  clear A30
  obtain rfl := Option.some.inj H
  go_enter Tryd.func26, Tryd.ntmps26
  go_wp2_with (first | ((with_reducible refine gate_callee (f := 33) rfl ?_); refine goesL_ (some 7) rfl rfl Tryd.func33 (by kernel_rfl) rfl #[.string a0, .string a1] rfl (by (try simp only [List.map_toArray, List.map_cons, List.map_nil]); first | done | rfl | (simp only [List.length_drop, List.length_take]; rfl)) ?_; (with_reducible refine (stringslite_HasPrefix.calls a0 a1 t101 _ A3.out).mono ?_); rintro e w' ⟨rfl, ⟨nd, rfl⟩⟩; refine ⟨_, rfl, ?_⟩))
  go_ret
  exact ⟨by first | rfl | (simp; done) | (simp [*]; done), by repeat (first | exact Drawn0.refl _ | apply Drawn0.step)⟩

-- NOT PRINTED: function 21 (fields_splitTerm)

/-! ### errors_New: function 22 -/
set_option maxHeartbeats 1000000 in
theorem errors_New.calls (s : ByteArray) (w : World) :
    Calls Tryd.prog 22 #[.string s] w fun e w' => (∃ x, e = .returned (.iface 74 x)) ∧ Below w.heap.size w w' := by
  have hu1 := Tryd.underlying76
  go_enter Tryd.func22, Tryd.ntmps22
  go_wp2_with fail
  go_ret
  exact ⟨⟨_, rfl⟩, by repeat (first | (with_reducible exact Below.refl _ _) | apply below_alloc | apply pw_below_drewN | apply below_drew1)⟩
-- NOT PRINTED: function 34 (fields_zzIndexAny)

-- NOT PRINTED: function 27 (fields_zzContainsAny)

-- NOT PRINTED: function 28 (bytes_NewBuffer)

-- NOT PRINTED: function 36 (bytes_Buffer_tryGrowByReslice)

-- NOT PRINTED: function 49 (bytes_Buffer_Len)

-- NOT PRINTED: function 50 (bytes_Buffer_Reset)

-- NOT PRINTED: function 51 (bytes_growSlice)

-- NOT PRINTED: function 37 (bytes_Buffer_grow)

-- NOT PRINTED: function 35 (bytes_Buffer_WriteByte)

-- NOT PRINTED: function 52 (utf8_appendRuneNonASCII)

-- NOT PRINTED: function 38 (utf8_AppendRune)

-- NOT PRINTED: function 29 (bytes_Buffer_WriteRune)

-- NOT PRINTED: function 30 (bytes_Buffer_String)

-- NOT PRINTED: function 23 (fields_UnescapeValue)

-- NOT PRINTED: function 24 (fields_andTerm_Transform)

-- NOT PRINTED: function 16 (fields_parseSelector)

-- NOT PRINTED: function 9 (fields_ParseSelector)

-- NOT PRINTED: function 10 (impl_terms)

-- NOT PRINTED: function 5 (impl_FieldParse)

theorem bl_le (x y : List UInt8) : (Op.bytesLess x y || x == y) = !(Op.bytesLess y x) := by
  rw [Go.Proofs.bytesLess_eq, Go.Proofs.bytesLess_eq]
  by_cases h : x < y
  · rw [decide_eq_true h, Bool.true_or, decide_eq_false (List.lt_asymm h)]; rfl
  · rw [decide_eq_false h, Bool.false_or]
    by_cases e : x = y
    · subst e; rw [beq_self_eq_true, decide_eq_false (List.lt_irrefl x)]; rfl
    · rw [beq_eq_false_iff_ne.2 e]
      have : y < x := by
        rcases List.le_iff_lt_or_eq.1 (List.not_lt.1 h) with q | q
        · exact q
        · exact absurd q.symm e
      rw [decide_eq_true this]; rfl
/-! ### spec_sorted: function 11 -/
mutual
def spec_sorted.l0 : Nat → List ByteArray → List ByteArray → Int → Option (List ByteArray)
  | 0, _, _, _ => none
  | k + 1, x0, x3, x4 => if x4 < (x0.length : Int) then (spec_sorted.l1 k x0 x3 x4 0) else (some x3)
def spec_sorted.l1 : Nat → List ByteArray → List ByteArray → Int → Int → Option (List ByteArray)
  | 0, _, _, _, _ => none
  | k + 1, x0, x3, x4, x5 => if x5 < (x3.length : Int) then (if 0 ≤ x5 then (if 0 ≤ x4 then (if x4 < (x0.length : Int) then (if ((Op.bytesLess ((rdOf ByteArray.empty x0 x4).toList) ((rdOf ByteArray.empty x3 x5).toList)) = true) then ((some (([] : List ByteArray) : List ByteArray)).bind fun y104 => (if x5 ≤ (x3.length : Int) then ((some (x3.take (x5 : Int).toNat : List ByteArray)).bind fun y107 => (if y104.length + y107.length < 8796093022208 then ((some (y104 ++ y107 : List ByteArray)).bind fun y111 => (if y111.length < 8796093022208 then ((some (y111 ++ [rdOf ByteArray.empty x0 x4] : List ByteArray)).bind fun y115 => ((some (x3.drop (x5 : Int).toNat : List ByteArray)).bind fun y118 => (if y115.length + y118.length < 8796093022208 then (spec_sorted.l0 k x0 (y115 ++ y118) (wrap64 (x4 + 1))) else (none)))) else (none))) else (none))) else (none))) else (spec_sorted.l1 k x0 x3 x4 (wrap64 (x5 + 1)))) else (none)) else (none)) else (none)) else ((some (([] : List ByteArray) : List ByteArray)).bind fun y125 => (if 0 ≤ x5 then (if x5 ≤ (x3.length : Int) then ((some (x3.take (x5 : Int).toNat : List ByteArray)).bind fun y128 => (if y125.length + y128.length < 8796093022208 then ((some (y125 ++ y128 : List ByteArray)).bind fun y132 => (if 0 ≤ x4 then (if x4 < (x0.length : Int) then (if y132.length < 8796093022208 then ((some (y132 ++ [rdOf ByteArray.empty x0 x4] : List ByteArray)).bind fun y136 => ((some (x3.drop (x5 : Int).toNat : List ByteArray)).bind fun y139 => (if y136.length + y139.length < 8796093022208 then (spec_sorted.l0 k x0 (y136 ++ y139) (wrap64 (x4 + 1))) else (none)))) else (none)) else (none)) else (none))) else (none))) else (none)) else (none)))
end
def spec_sorted.f (k : Nat) (l0 : List ByteArray) : Option (List ByteArray) := spec_sorted.l0 k l0 ([] : List ByteArray) 0
theorem spec_sorted.mono_l : ∀ k, (∀ y0 y1 y2, LeO (spec_sorted.l0 k y0 y1 y2) (spec_sorted.l0 (k + 1) y0 y1 y2)) ∧ (∀ y0 y1 y2 y3, LeO (spec_sorted.l1 k y0 y1 y2 y3) (spec_sorted.l1 (k + 1) y0 y1 y2 y3))
  | 0 => ⟨fun _ _ _ r h => by simp [spec_sorted.l0] at h, fun _ _ _ _ r h => by simp [spec_sorted.l1] at h⟩
  | k + 1 => by
    obtain ⟨ih0, ih1⟩ := spec_sorted.mono_l k
    refine ⟨?_, ?_⟩
    · intro y0 y1 y2
      unfold spec_sorted.l0
      repeat' first
      | (with_reducible exact ih0 _ _ _)
      | (with_reducible exact ih1 _ _ _ _)
      | (with_reducible exact LeO.refl _)
      | (with_reducible exact LeO.none _)
      | (with_reducible refine LeO.ite ?_ ?_)
      | (with_reducible refine LeO.bind ?_ (fun _ => ?_))
      | exact ih0 _ _ _
      | exact ih1 _ _ _ _
      | exact LeO.none _
      | refine LeO.ite ?_ ?_
      | refine LeO.bind ?_ (fun _ => ?_)
    · intro y0 y1 y2 y3
      unfold spec_sorted.l1
      repeat' first
      | (with_reducible exact ih0 _ _ _)
      | (with_reducible exact ih1 _ _ _ _)
      | (with_reducible exact LeO.refl _)
      | (with_reducible exact LeO.none _)
      | (with_reducible refine LeO.ite ?_ ?_)
      | (with_reducible refine LeO.bind ?_ (fun _ => ?_))
      | exact ih0 _ _ _
      | exact ih1 _ _ _ _
      | exact LeO.none _
      | refine LeO.ite ?_ ?_
      | refine LeO.bind ?_ (fun _ => ?_)
theorem spec_sorted.mono : ∀ a0 k, LeO (spec_sorted.f k a0) (spec_sorted.f (k + 1) a0) := by
  intro a0 k
  obtain ⟨ih0, ih1⟩ := spec_sorted.mono_l k
  unfold spec_sorted.f
  repeat' first
      | (with_reducible exact ih0 _ _ _)
      | (with_reducible exact ih1 _ _ _ _)
      | (with_reducible exact LeO.refl _)
      | (with_reducible exact LeO.none _)
      | (with_reducible refine LeO.ite ?_ ?_)
      | (with_reducible refine LeO.bind ?_ (fun _ => ?_))
      | exact ih0 _ _ _
      | exact ih1 _ _ _ _
      | exact LeO.none _
      | refine LeO.ite ?_ ?_
      | refine LeO.bind ?_ (fun _ => ?_)
set_option maxHeartbeats 8000000 in
set_option maxRecDepth 100000 in
theorem spec_sorted.calls (k : Nat) (A0 : Option Addr) (c0 : Nat) (l0 : List ByteArray) (r : List ByteArray) (w : World) (hr0 : Kd.C Kd.string w A0 l0.length l0) (hc0 : l0.length ≤ c0) (h : spec_sorted.f k l0 = some r) :
    Calls Tryd.prog 11 #[.slice A0 l0.length c0] w fun e w' => ∃ v0_ : Value, e = .returned (v0_) ∧ Kd.R Kd.string 9 w' w.heap.size (fun _ => True) v0_ r ∧ Below w.heap.size w w' := by
  have HR0 := Aside0.mk hr0
  have HC0 := Aside0.mk hc0
  clear hr0 hc0
  have HB := Aside0.mk (Below.refl w.heap.size w)
  have H : (spec_sorted.l0 k l0 ([] : List ByteArray) 0) = some r := h
  clear h
  have H' := Aside0.mk H
  clear H
  go_enter Tryd.func11, Tryd.ntmps11
  go_wp2
  repeat (go_quiet (fail); try go_wp2)
  go_loopg [3, 4] k (fun kq v3 v4 w' => ∃ (x3_1 : List ByteArray) (x4_1 : Int), v4 = .int .i64 x4_1 ∧ Aside0 (spec_sorted.l0 kq l0 x3_1 x4_1 = some r) ∧ Aside0 (kq ≤ k) ∧ Aside0 (Kd.R Kd.string 9 w' w.heap.size (fun _ => True) v3 x3_1) ∧ Aside0 (Below w.heap.size w w'))
  case atStart => exact ⟨(([] : List ByteArray)), (0), (by first | rfl | (simp; done) | (simp [*]; done)), H', ⟨Nat.le_refl _⟩, ⟨by first | exact Kd.R_nil _ _ _ _ _ | exact Kd.N_nil _ _ _ _ _ | exact Kd.V_nil _ _ _ _ _ | exact Kd.Q_nil _ _ _ _ _ | exact Kd.S_nil _ _ _ _ _⟩, ⟨by repeat (first | (with_reducible first | exact HB.out | apply below_alloc | apply pw_below_drewN | apply below_drew1) | exact HB.out)⟩⟩
  case round =>
    clear H'
    try clear c1
    obtain ⟨x3_1, x4_1, rfl, HA, HK1, HO_3, HB⟩ := hrel
    cases gk with
    | zero => exact absurd HA.out (by simp [spec_sorted.l0])
    | succ k1 =>
      have H := HA.out
      clear HA
      simp only [spec_sorted.l0] at H
      by_cases c2 : x4_1 < (l0.length : Int)
      · rw [if_pos c2] at H
        have c2b0 : decide (x4_1 < (l0.length : Int)) = true := decide_eq_true c2
        clear c2
        have H' := Aside0.mk H
        clear H
        go_wp2
        repeat (go_quiet (fail); try go_wp2)
        go_loopg [5] k1 (fun kq v5 w' => ∃ (x5_2 : Int), v5 = .int .i64 x5_2 ∧ Aside0 (spec_sorted.l1 kq l0 x3_1 x4_1 x5_2 = some r) ∧ Aside0 (kq ≤ k1) ∧ Aside0 (Kd.R Kd.string 9 w' w.heap.size (fun _ => True) u3 x3_1) ∧ Aside0 (Below w.heap.size w w'))
        case atStart => exact ⟨(0), (by first | rfl | (simp; done) | (simp [*]; done)), H', ⟨Nat.le_refl _⟩, ⟨by (with_reducible repeat (first | apply Kd.R_alloc | apply Kd.R_drewN | apply Kd.R_drew)); exact HO_3.out⟩, ⟨by repeat (first | (with_reducible first | exact HB.out | apply below_alloc | apply pw_below_drewN | apply below_drew1) | exact HB.out)⟩⟩
        case round =>
          clear H'
          try clear c1
          try clear c2
          try clear c2b0
          try clear p2
          obtain ⟨x5_2, rfl, HA, HK2, HO_3, HB⟩ := hrel
          cases gk with
          | zero => exact absurd HA.out (by simp [spec_sorted.l1])
          | succ k2 =>
            have H := HA.out
            clear HA
            simp only [spec_sorted.l1] at H
            by_cases c3 : x5_2 < (x3_1.length : Int)
            · rw [if_pos c3] at H
              have c3b0 : decide (x5_2 < (x3_1.length : Int)) = true := decide_eq_true c3
              clear c3
              by_cases c4 : 0 ≤ x5_2
              · rw [if_pos c4] at H
                have c4b0 : decide (0 ≤ x5_2) = true := decide_eq_true c4
                clear c4
                by_cases c5 : 0 ≤ x4_1
                · rw [if_pos c5] at H
                  have c5b0 : decide (0 ≤ x4_1) = true := decide_eq_true c5
                  clear c5
                  by_cases c6 : x4_1 < (l0.length : Int)
                  · rw [if_pos c6] at H
                    have c6b0 : decide (x4_1 < (l0.length : Int)) = true := decide_eq_true c6
                    clear c6
                    by_cases c7 : ((Op.bytesLess ((rdOf ByteArray.empty l0 x4_1).toList) ((rdOf ByteArray.empty x3_1 x5_2).toList)) = true)
                    · rw [if_pos c7] at H
                      have c7b0 : (Op.bytesLess ((rdOf ByteArray.empty l0 x4_1).toList) ((rdOf ByteArray.empty x3_1 x5_2).toList)) = true := c7
                      have c7le : ∀ W, Sem.run Tryd.prog (binOp BinOp.leq 9 (Value.string (rdOf ByteArray.empty x3_1 x5_2)) (Value.string (rdOf ByteArray.empty l0 x4_1))) W = .ok (Value.bool false) W := fun W => by rw [show false = !(Op.bytesLess (rdOf ByteArray.empty l0 x4_1).toList (rdOf ByteArray.empty x3_1 x5_2).toList) by rw [c7b0]; rfl, ← bl_le]; rfl
                      clear c7
                      obtain ⟨y104, hy104⟩ : ∃ y_ : List ByteArray, y_ = (([] : List ByteArray)) := ⟨_, rfl⟩
                      replace H : (if x5_2 ≤ (x3_1.length : Int) then ((some (x3_1.take (x5_2 : Int).toNat : List ByteArray)).bind fun y107 => (if y104.length + y107.length < 8796093022208 then ((some (y104 ++ y107 : List ByteArray)).bind fun y111 => (if y111.length < 8796093022208 then ((some (y111 ++ [rdOf ByteArray.empty l0 x4_1] : List ByteArray)).bind fun y115 => ((some (x3_1.drop (x5_2 : Int).toNat : List ByteArray)).bind fun y118 => (if y115.length + y118.length < 8796093022208 then (spec_sorted.l0 k2 l0 (y115 ++ y118) (wrap64 (x4_1 + 1))) else (none)))) else (none))) else (none))) else (none)) = some r := by first | (rw [hy104]; with_reducible exact H) | (have H2_ := (Option.bind_some _ _).symm.trans H; rw [hy104]; with_reducible exact H2_) | (have H2_ := (Option.bind_some _ _).symm.trans H; with_reducible exact H2_) | with_reducible exact H | (rw [hy104]; exact H) | exact H
                      have Ny104 := Aside0.mk hy104
                      clear hy104
                      have c8b0 := eq_true (of_decide_eq_true (by first | (with_reducible assumption) | assumption) : 0 ≤ x5_2)
                      by_cases c9 : x5_2 ≤ (x3_1.length : Int)
                      · rw [if_pos c9] at H
                        have c9b0 := eq_true c9
                        have c9b1 : decide (x5_2 ≤ (x3_1.length : Int)) = true := decide_eq_true c9
                        clear c9
                        obtain ⟨y107, hy107⟩ : ∃ y_ : List ByteArray, y_ = (x3_1.take (x5_2 : Int).toNat) := ⟨_, rfl⟩
                        replace H : (if y104.length + y107.length < 8796093022208 then ((some (y104 ++ y107 : List ByteArray)).bind fun y111 => (if y111.length < 8796093022208 then ((some (y111 ++ [rdOf ByteArray.empty l0 x4_1] : List ByteArray)).bind fun y115 => ((some (x3_1.drop (x5_2 : Int).toNat : List ByteArray)).bind fun y118 => (if y115.length + y118.length < 8796093022208 then (spec_sorted.l0 k2 l0 (y115 ++ y118) (wrap64 (x4_1 + 1))) else (none)))) else (none))) else (none)) = some r := by first | (rw [hy107]; with_reducible exact H) | (have H2_ := (Option.bind_some _ _).symm.trans H; rw [hy107]; with_reducible exact H2_) | (have H2_ := (Option.bind_some _ _).symm.trans H; with_reducible exact H2_) | with_reducible exact H | (rw [hy107]; exact H) | exact H
                        have Ny107 := Aside0.mk hy107
                        clear hy107
                        by_cases c10 : y104.length + y107.length < 8796093022208
                        · rw [if_pos c10] at H
                          have LMc10 := Aside0.mk c10
                          clear c10
                          obtain ⟨y111, hy111⟩ : ∃ y_ : List ByteArray, y_ = (y104 ++ y107) := ⟨_, rfl⟩
                          replace H : (if y111.length < 8796093022208 then ((some (y111 ++ [rdOf ByteArray.empty l0 x4_1] : List ByteArray)).bind fun y115 => ((some (x3_1.drop (x5_2 : Int).toNat : List ByteArray)).bind fun y118 => (if y115.length + y118.length < 8796093022208 then (spec_sorted.l0 k2 l0 (y115 ++ y118) (wrap64 (x4_1 + 1))) else (none)))) else (none)) = some r := by first | (rw [hy111]; with_reducible exact H) | (have H2_ := (Option.bind_some _ _).symm.trans H; rw [hy111]; with_reducible exact H2_) | (have H2_ := (Option.bind_some _ _).symm.trans H; with_reducible exact H2_) | with_reducible exact H | (rw [hy111]; exact H) | exact H
                          have Ny111 := Aside0.mk hy111
                          clear hy111
                          by_cases c11 : y111.length < 8796093022208
                          · rw [if_pos c11] at H
                            have LMc11 := Aside0.mk c11
                            clear c11
                            obtain ⟨y115, hy115⟩ : ∃ y_ : List ByteArray, y_ = (y111 ++ [rdOf ByteArray.empty l0 x4_1]) := ⟨_, rfl⟩
                            replace H : ((some (x3_1.drop (x5_2 : Int).toNat : List ByteArray)).bind fun y118 => (if y115.length + y118.length < 8796093022208 then (spec_sorted.l0 k2 l0 (y115 ++ y118) (wrap64 (x4_1 + 1))) else (none))) = some r := by first | (rw [hy115]; with_reducible exact H) | (have H2_ := (Option.bind_some _ _).symm.trans H; rw [hy115]; with_reducible exact H2_) | (have H2_ := (Option.bind_some _ _).symm.trans H; with_reducible exact H2_) | with_reducible exact H | (rw [hy115]; exact H) | exact H
                            have Ny115 := Aside0.mk hy115
                            clear hy115
                            have c12b0 := eq_true (of_decide_eq_true (by first | (with_reducible assumption) | assumption) : 0 ≤ x5_2)
                            have c13b0 := eq_true (of_decide_eq_true (by first | (with_reducible assumption) | assumption) : x5_2 ≤ (x3_1.length : Int))
                            obtain ⟨y118, hy118⟩ : ∃ y_ : List ByteArray, y_ = (x3_1.drop (x5_2 : Int).toNat) := ⟨_, rfl⟩
                            replace H : (if y115.length + y118.length < 8796093022208 then (spec_sorted.l0 k2 l0 (y115 ++ y118) (wrap64 (x4_1 + 1))) else (none)) = some r := by first | (rw [hy118]; with_reducible exact H) | (have H2_ := (Option.bind_some _ _).symm.trans H; rw [hy118]; with_reducible exact H2_) | (have H2_ := (Option.bind_some _ _).symm.trans H; with_reducible exact H2_) | with_reducible exact H | (rw [hy118]; exact H) | exact H
                            have Ny118 := Aside0.mk hy118
                            clear hy118
                            by_cases c14 : y115.length + y118.length < 8796093022208
                            · rw [if_pos c14] at H
                              have LMc14 := Aside0.mk c14
                              clear c14
                              obtain ⟨y122, hy122⟩ : ∃ y_ : List ByteArray, y_ = (y115 ++ y118) := ⟨_, rfl⟩
                              replace H : (spec_sorted.l0 k2 l0 y122 (wrap64 (x4_1 + 1))) = some r := by first | (rw [hy122]; with_reducible exact H) | (have H2_ := (Option.bind_some _ _).symm.trans H; rw [hy122]; with_reducible exact H2_) | (have H2_ := (Option.bind_some _ _).symm.trans H; with_reducible exact H2_) | with_reducible exact H | (rw [hy122]; exact H) | exact H
                              have Ny122 := Aside0.mk hy122
                              clear hy122
                              have H' := Aside0.mk H
                              clear H
                              obtain ⟨Ao15, co15, eo15⟩ := Kd.R_slice HO_3.out
                              subst eo15
                              have p102 : 0 ≤ (x5_2 : Int) := of_decide_eq_true (by first | (with_reducible assumption) | assumption)
                              have q102 : x5_2 < (x3_1.length : Int) := of_decide_eq_true (by first | (with_reducible assumption) | assumption)
                              obtain ⟨ad102, e102, hx102_0⟩ := Kd.at_string (Kd.R_reads' HO_3.out).2.2 x5_2 p102 q102
                              cases e102
                              replace p102 := eq_true p102
                              replace q102 := eq_true q102
                              have p103 : 0 ≤ (x4_1 : Int) := of_decide_eq_true (by first | (with_reducible assumption) | assumption)
                              have q103 : x4_1 < (l0.length : Int) := of_decide_eq_true (by first | (with_reducible assumption) | assumption)
                              obtain ⟨ad103, e103, hx103_0⟩ := Kd.at_string HR0.out x4_1 p103 q103
                              cases e103
                              replace hx103_0 := (HB.out.cell (World.block_lt_of_cell? w _ hx103_0)).trans hx103_0
                              replace p103 := eq_true p103
                              replace q103 := eq_true q103
                              go_wp2_with (first | ((with_reducible refine gate_dst (N := 30) rfl ?_); refine Kd.R_lit Kd.string _ 9 ?hg (N := 30) ?hd (xs := ([] : List ByteArray)) (inner := []) (ok := fun _ => True) (okp := fun _ => True) ?hr ?hp (fun _ hk => hk) trivial (Below.refl _ _) (Nat.le_refl _) (by simp) ?_; (case hd => rfl); (case hg => rfl); (case hr => first | (go_simp; done) | (go_simp; rfl)); (case hp => exact (Reps.none _ _)); intro v105 w16 ho17 hb hg_ hnew_; clear hg_ hnew_; (first | rw [← Ny104.out] at ho17 | (simp only [Int.reduceToNat] at ho17; rw [← Ny104.out] at ho17)); have n0_ := Aside0.mk (Kd.R_elder' (by (with_reducible repeat (first | apply Kd.R_alloc | apply Kd.R_drewN | apply Kd.R_drew)); exact HO_3.out) (Kd.R_base ho17) hb); have n1_ := Aside0.mk (Kd.R_lower (Kd.R_new' ho17 (Kd.R_lt (by (with_reducible repeat (first | apply Kd.R_alloc | apply Kd.R_drewN | apply Kd.R_drew)); exact HO_3.out))) (below_size (by repeat (first | (with_reducible first | exact HB.out | apply below_alloc | apply pw_below_drewN | apply below_drew1) | exact HB.out)))); have n2_ := Aside0.mk (below_step (by repeat (first | (with_reducible first | exact HB.out | apply below_alloc | apply pw_below_drewN | apply below_drew1) | exact HB.out)) hb); clear HO_3; clear HB; have HO_3 := n0_; have HO106 := n1_; have HB := n2_; clear n0_ n1_ n2_; clear hb ho17; have q18 : (x5_2 : Int) ≤ ((x3_1.length : Int) : Int) := of_decide_eq_true (by first | (with_reducible assumption) | assumption); obtain ⟨i018, hi018, _, hsz18, _⟩ := info_parts info9; have hroom18 : x3_1.length ≤ co15 := (Kd.R_reads' HO_3.out).2.1; have hC18 : Kd.C Kd.string _ (some ad102) x3_1.length x3_1 := (Kd.R_reads' HO_3.out).2.2; have hcut18 := cut_to (P := Tryd.prog) 39 9 .i64 Tryd.underlying39 hi018 (some ad102) x3_1.length co15 x5_2 (of_decide_eq_true (by first | (with_reducible assumption) | assumption)) q18 hroom18; have hr18 := Kd.C_take (m := (x5_2 : Int).toNat) hC18 (by omega); have hy18 : y107.length = (x5_2 : Int).toNat := (by rw [Ny107.out, List.length_take]; omega); rw [← Ny107.out] at hr18; rw [← hy18] at hcut18; have HR110 := Aside0.mk hr18; have HC110 := Aside0.mk (show y107.length ≤ co15 from by omega); clear hr18 hC18 hroom18 hi018 hsz18; have KY18 := Aside0.mk hy18; clear hy18; have KL18 := Aside0.mk (show (x5_2 : Int).toNat ≤ x3_1.length from by omega); replace q18 := eq_true q18) | ((with_reducible refine gate_builtin (b := .append) (xs := #[.tmp 30, .tmp 33]) rfl ?_); at_builtin; refine Kd.R_append_rows Kd.string (w0 := w) w.heap.size rfl (.tmp 30) (.tmp 33) 39 9 (.string ⟨#[]⟩) 16 rfl Tryd.underlying39 info9 rfl (by decide) (by omega) v105 y104 y107 _ _ _ (fun k_ => some k_ ≠ (.slice (some ad102) x3_1.length co15 : Value).ownBlock) (fun _ => False) rfl rfl ?aO ?aR (fun _ _ h => h) (fun _ h => h.elim) ?aF ?aB ?aS ?aL ?_; (case aR => repeat (first | exact (by repeat (first | (with_reducible exact HR110.out) | (with_reducible refine Kd.C_alloc ?_ _) | (with_reducible refine Kd.C_drewN ?_ _) | (with_reducible refine Kd.C_drew ?_) | exact HR110.out)) | (with_reducible refine Kd.C_alloc ?_ _) | (with_reducible refine Kd.C_drewN ?_ _) | (with_reducible refine Kd.C_drew ?_))); (case aB => exact (by repeat (first | (with_reducible first | exact HB.out | apply below_alloc | apply pw_below_drewN | apply below_drew1) | exact HB.out))); (case aF => exact (fun k_ hk => Kd.fresh' (Kd.R_lt (by (with_reducible repeat (first | apply Kd.R_alloc | apply Kd.R_drewN | apply Kd.R_drew)); exact HO_3.out)) k_ hk)); (case aO => exact (by (with_reducible repeat (first | apply Kd.R_alloc | apply Kd.R_drewN | apply Kd.R_drew)); exact Kd.R_mono HO106.out (fun _ hk => hk.2))); (case aS => exact (below_size (by repeat (first | (with_reducible first | exact HB.out | apply below_alloc | apply pw_below_drewN | apply below_drew1) | exact HB.out)))); (case aL => have := LMc10.out; omega); intro v112 w19 ho hb hg hat; rw [← Ny111.out] at ho; have n0_ := Aside0.mk (Kd.R_after (ok := (fun _ => True)) (by (with_reducible repeat (first | apply Kd.R_alloc | apply Kd.R_drewN | apply Kd.R_drew)); exact HO_3.out) hg hat); have n1_ := Aside0.mk (hb); have n2_ := Aside0.mk ((show Kd.C Kd.string w19 (some ad102) y107.length y107 from by rw [Ny107.out]; exact Kd.C_take (m := (x5_2 : Int).toNat) ((Kd.R_reads' (Kd.R_after (ok := (fun _ => True)) (by (with_reducible repeat (first | apply Kd.R_alloc | apply Kd.R_drewN | apply Kd.R_drew)); exact HO_3.out) hg hat)).2.2) KL18.out)); have n3_ := Aside0.mk (ho); clear HO_3; clear HB; clear HR110; clear HO106; have HO_3 := n0_; have HB := n1_; have HR110 := n2_; have HO113 := n3_; clear n0_ n1_ n2_ n3_; clear ho hb hg hat; have p114 : 0 ≤ (x4_1 : Int) := of_decide_eq_true (by first | (with_reducible assumption) | assumption); have q114 : x4_1 < (l0.length : Int) := of_decide_eq_true (by first | (with_reducible assumption) | assumption); obtain ⟨ad114, e114, hx114_0⟩ := Kd.at_string HR0.out x4_1 p114 q114; obtain rfl : ad103 = ad114 := (by injection e114); replace hx114_0 := (HB.out.cell (World.block_lt_of_cell? w _ hx114_0)).trans hx114_0; replace p114 := eq_true p114; replace q114 := eq_true q114) | ((with_reducible refine gate_builtin (b := .append) (xs := #[.tmp 35, .tmp 40]) rfl ?_); at_builtin; refine Kd.R_append Kd.string (w0 := w) w.heap.size rfl (.tmp 35) (.tmp 40) 39 9 (.string ⟨#[]⟩) 16 rfl Tryd.underlying39 info9 rfl (by decide) (by omega) v112 y111 (rdOf ByteArray.empty l0 x4_1) [.string (rdOf ByteArray.empty l0 x4_1)] (fun k_ => some k_ ≠ (.slice (some ad102) x3_1.length co15 : Value).ownBlock) (fun _ => False) rfl rfl ?aP (fun _ hk => hk.elim) ?aF ?aO ?aB ?aS ?aL ?_; (case aP => exact rfl); (case aB => exact (by repeat (first | (with_reducible first | exact HB.out | apply below_alloc | apply pw_below_drewN | apply below_drew1) | exact HB.out))); (case aF => exact (fun k_ hk => Kd.fresh' (Kd.R_lt (by (with_reducible repeat (first | apply Kd.R_alloc | apply Kd.R_drewN | apply Kd.R_drew)); exact HO_3.out)) k_ hk)); (case aO => exact (by (with_reducible repeat (first | apply Kd.R_alloc | apply Kd.R_drewN | apply Kd.R_drew)); exact HO113.out)); (case aS => exact (below_size (by repeat (first | (with_reducible first | exact HB.out | apply below_alloc | apply pw_below_drewN | apply below_drew1) | exact HB.out)))); (case aL => have := LMc11.out; omega); intro v116 w20 ho hb hg hat; rw [← Ny115.out] at ho; have n0_ := Aside0.mk (Kd.R_after (ok := (fun _ => True)) (by (with_reducible repeat (first | apply Kd.R_alloc | apply Kd.R_drewN | apply Kd.R_drew)); exact HO_3.out) hg hat); have n1_ := Aside0.mk (hb); have n2_ := Aside0.mk ((show Kd.C Kd.string w20 (some ad102) y107.length y107 from by rw [Ny107.out]; exact Kd.C_take (m := (x5_2 : Int).toNat) ((Kd.R_reads' (Kd.R_after (ok := (fun _ => True)) (by (with_reducible repeat (first | apply Kd.R_alloc | apply Kd.R_drewN | apply Kd.R_drew)); exact HO_3.out) hg hat)).2.2) KL18.out)); have n3_ := Aside0.mk (ho); clear HO_3; clear HB; clear HR110; clear HO113; have HO_3 := n0_; have HB := n1_; have HR110 := n2_; have HO117 := n3_; clear n0_ n1_ n2_ n3_; clear ho hb hg hat; have q21 : (x5_2 : Int) ≤ ((x3_1.length : Int) : Int) := of_decide_eq_true (by first | (with_reducible assumption) | assumption); obtain ⟨i021, hi021, _, hsz21, _⟩ := info_parts info9; have hroom21 : x3_1.length ≤ co15 := (Kd.R_reads' HO_3.out).2.1; have hC21 : Kd.C Kd.string _ (some ad102) x3_1.length x3_1 := (Kd.R_reads' HO_3.out).2.2; have q021 : (0 : Int) ≤ (x5_2 : Int) := of_decide_eq_true (by first | (with_reducible assumption) | assumption); have hcut21 := cut_from (P := Tryd.prog) 39 9 .i64 Tryd.underlying39 hi021 1 hsz21 (some ad102) x3_1.length co15 x5_2 q021 q21; have hr21 := Kd.C_drop (m := (x5_2 : Int).toNat) (c := co15) hC21 (by omega) hroom21; obtain ⟨A21, hA21⟩ : ∃ A1, A1 = (if co15 = (x5_2 : Int).toNat then (some ad102) else ((some ad102) : Option Addr).map (·.add ((x5_2 : Int).toNat * 1))) := ⟨_, rfl⟩; obtain ⟨c21, hc21⟩ : ∃ c1, c1 = co15 - (x5_2 : Int).toNat := ⟨_, rfl⟩; have hy21 : y118.length = x3_1.length - (x5_2 : Int).toNat := (by rw [Ny118.out, List.length_drop] <;> omega); rw [show (x3_1).drop (x5_2 : Int).toNat = y118 from Ny118.out.symm] at hr21; replace hr21 : Kd.C Kd.string _ A21 y118.length y118 := (by rw [hA21]; exact hr21); rw [← hy21, ← hA21, ← hc21] at hcut21; have HR121 := Aside0.mk hr21; have HC121 := Aside0.mk (show y118.length ≤ c21 from by rw [hy21, hc21]; exact Nat.sub_le_sub_right hroom21 _); clear hr21 hC21 hroom21 hi021 hsz21 hc21; have KY21 := Aside0.mk hy21; have KA21 := Aside0.mk hA21; clear hy21 hA21; have KL21 := Aside0.mk (show (x5_2 : Int).toNat ≤ x3_1.length from by omega); replace q21 := eq_true q21) | ((with_reducible refine gate_builtin (b := .append) (xs := #[.tmp 42, .tmp 45]) rfl ?_); at_builtin; refine Kd.R_append_rows Kd.string (w0 := w) w.heap.size rfl (.tmp 42) (.tmp 45) 39 9 (.string ⟨#[]⟩) 16 rfl Tryd.underlying39 info9 rfl (by decide) (by omega) v116 y115 y118 _ _ _ (fun k_ => some k_ ≠ (.slice (some ad102) x3_1.length co15 : Value).ownBlock) (fun _ => False) rfl rfl ?aO ?aR (fun _ _ h => h) (fun _ h => h.elim) ?aF ?aB ?aS ?aL ?_; (case aR => repeat (first | exact (by repeat (first | (with_reducible exact HR121.out) | (with_reducible refine Kd.C_alloc ?_ _) | (with_reducible refine Kd.C_drewN ?_ _) | (with_reducible refine Kd.C_drew ?_) | exact HR121.out)) | (with_reducible refine Kd.C_alloc ?_ _) | (with_reducible refine Kd.C_drewN ?_ _) | (with_reducible refine Kd.C_drew ?_))); (case aB => exact (by repeat (first | (with_reducible first | exact HB.out | apply below_alloc | apply pw_below_drewN | apply below_drew1) | exact HB.out))); (case aF => exact (fun k_ hk => Kd.fresh' (Kd.R_lt (by (with_reducible repeat (first | apply Kd.R_alloc | apply Kd.R_drewN | apply Kd.R_drew)); exact HO_3.out)) k_ hk)); (case aO => exact (by (with_reducible repeat (first | apply Kd.R_alloc | apply Kd.R_drewN | apply Kd.R_drew)); exact HO117.out)); (case aS => exact (below_size (by repeat (first | (with_reducible first | exact HB.out | apply below_alloc | apply pw_below_drewN | apply below_drew1) | exact HB.out)))); (case aL => have := LMc14.out; omega); intro v123 w22 ho hb hg hat; rw [← Ny122.out] at ho; have n0_ := Aside0.mk (Kd.R_after (ok := (fun _ => True)) (by (with_reducible repeat (first | apply Kd.R_alloc | apply Kd.R_drewN | apply Kd.R_drew)); exact HO_3.out) hg hat); have n1_ := Aside0.mk (hb); have n2_ := Aside0.mk ((show Kd.C Kd.string w22 (some ad102) y107.length y107 from by rw [Ny107.out]; exact Kd.C_take (m := (x5_2 : Int).toNat) ((Kd.R_reads' (Kd.R_after (ok := (fun _ => True)) (by (with_reducible repeat (first | apply Kd.R_alloc | apply Kd.R_drewN | apply Kd.R_drew)); exact HO_3.out) hg hat)).2.2) KL18.out)); have n3_ := Aside0.mk ((show Kd.C Kd.string w22 A21 y118.length y118 from by rw [Ny118.out, KA21.out]; exact Kd.C_drop (m := (x5_2 : Int).toNat) (c := co15) ((Kd.R_reads' (Kd.R_after (ok := (fun _ => True)) (by (with_reducible repeat (first | apply Kd.R_alloc | apply Kd.R_drewN | apply Kd.R_drew)); exact HO_3.out) hg hat)).2.2) KL21.out ((Kd.R_reads' (Kd.R_after (ok := (fun _ => True)) (by (with_reducible repeat (first | apply Kd.R_alloc | apply Kd.R_drewN | apply Kd.R_drew)); exact HO_3.out) hg hat)).2.1))); have n4_ := Aside0.mk (ho); clear HO_3; clear HB; clear HR110; clear HR121; clear HO117; have HO_3 := n0_; have HB := n1_; have HR110 := n2_; have HR121 := n3_; have HO124 := n4_; clear n0_ n1_ n2_ n3_ n4_; clear ho hb hg hat))
                              repeat (go_quiet (first | ((with_reducible refine gate_dst (N := 30) rfl ?_); refine Kd.R_lit Kd.string _ 9 ?hg (N := 30) ?hd (xs := ([] : List ByteArray)) (inner := []) (ok := fun _ => True) (okp := fun _ => True) ?hr ?hp (fun _ hk => hk) trivial (Below.refl _ _) (Nat.le_refl _) (by simp) ?_; (case hd => rfl); (case hg => rfl); (case hr => first | (go_simp; done) | (go_simp; rfl)); (case hp => exact (Reps.none _ _)); intro v105 w16 ho17 hb hg_ hnew_; clear hg_ hnew_; (first | rw [← Ny104.out] at ho17 | (simp only [Int.reduceToNat] at ho17; rw [← Ny104.out] at ho17)); have n0_ := Aside0.mk (Kd.R_elder' (by (with_reducible repeat (first | apply Kd.R_alloc | apply Kd.R_drewN | apply Kd.R_drew)); exact HO_3.out) (Kd.R_base ho17) hb); have n1_ := Aside0.mk (Kd.R_lower (Kd.R_new' ho17 (Kd.R_lt (by (with_reducible repeat (first | apply Kd.R_alloc | apply Kd.R_drewN | apply Kd.R_drew)); exact HO_3.out))) (below_size (by repeat (first | (with_reducible first | exact HB.out | apply below_alloc | apply pw_below_drewN | apply below_drew1) | exact HB.out)))); have n2_ := Aside0.mk (below_step (by repeat (first | (with_reducible first | exact HB.out | apply below_alloc | apply pw_below_drewN | apply below_drew1) | exact HB.out)) hb); clear HO_3; clear HB; have HO_3 := n0_; have HO106 := n1_; have HB := n2_; clear n0_ n1_ n2_; clear hb ho17; have q18 : (x5_2 : Int) ≤ ((x3_1.length : Int) : Int) := of_decide_eq_true (by first | (with_reducible assumption) | assumption); obtain ⟨i018, hi018, _, hsz18, _⟩ := info_parts info9; have hroom18 : x3_1.length ≤ co15 := (Kd.R_reads' HO_3.out).2.1; have hC18 : Kd.C Kd.string _ (some ad102) x3_1.length x3_1 := (Kd.R_reads' HO_3.out).2.2; have hcut18 := cut_to (P := Tryd.prog) 39 9 .i64 Tryd.underlying39 hi018 (some ad102) x3_1.length co15 x5_2 (of_decide_eq_true (by first | (with_reducible assumption) | assumption)) q18 hroom18; have hr18 := Kd.C_take (m := (x5_2 : Int).toNat) hC18 (by omega); have hy18 : y107.length = (x5_2 : Int).toNat := (by rw [Ny107.out, List.length_take]; omega); rw [← Ny107.out] at hr18; rw [← hy18] at hcut18; have HR110 := Aside0.mk hr18; have HC110 := Aside0.mk (show y107.length ≤ co15 from by omega); clear hr18 hC18 hroom18 hi018 hsz18; have KY18 := Aside0.mk hy18; clear hy18; have KL18 := Aside0.mk (show (x5_2 : Int).toNat ≤ x3_1.length from by omega); replace q18 := eq_true q18) | ((with_reducible refine gate_builtin (b := .append) (xs := #[.tmp 30, .tmp 33]) rfl ?_); at_builtin; refine Kd.R_append_rows Kd.string (w0 := w) w.heap.size rfl (.tmp 30) (.tmp 33) 39 9 (.string ⟨#[]⟩) 16 rfl Tryd.underlying39 info9 rfl (by decide) (by omega) v105 y104 y107 _ _ _ (fun k_ => some k_ ≠ (.slice (some ad102) x3_1.length co15 : Value).ownBlock) (fun _ => False) rfl rfl ?aO ?aR (fun _ _ h => h) (fun _ h => h.elim) ?aF ?aB ?aS ?aL ?_; (case aR => repeat (first | exact (by repeat (first | (with_reducible exact HR110.out) | (with_reducible refine Kd.C_alloc ?_ _) | (with_reducible refine Kd.C_drewN ?_ _) | (with_reducible refine Kd.C_drew ?_) | exact HR110.out)) | (with_reducible refine Kd.C_alloc ?_ _) | (with_reducible refine Kd.C_drewN ?_ _) | (with_reducible refine Kd.C_drew ?_))); (case aB => exact (by repeat (first | (with_reducible first | exact HB.out | apply below_alloc | apply pw_below_drewN | apply below_drew1) | exact HB.out))); (case aF => exact (fun k_ hk => Kd.fresh' (Kd.R_lt (by (with_reducible repeat (first | apply Kd.R_alloc | apply Kd.R_drewN | apply Kd.R_drew)); exact HO_3.out)) k_ hk)); (case aO => exact (by (with_reducible repeat (first | apply Kd.R_alloc | apply Kd.R_drewN | apply Kd.R_drew)); exact Kd.R_mono HO106.out (fun _ hk => hk.2))); (case aS => exact (below_size (by repeat (first | (with_reducible first | exact HB.out | apply below_alloc | apply pw_below_drewN | apply below_drew1) | exact HB.out)))); (case aL => have := LMc10.out; omega); intro v112 w19 ho hb hg hat; rw [← Ny111.out] at ho; have n0_ := Aside0.mk (Kd.R_after (ok := (fun _ => True)) (by (with_reducible repeat (first | apply Kd.R_alloc | apply Kd.R_drewN | apply Kd.R_drew)); exact HO_3.out) hg hat); have n1_ := Aside0.mk (hb); have n2_ := Aside0.mk ((show Kd.C Kd.string w19 (some ad102) y107.length y107 from by rw [Ny107.out]; exact Kd.C_take (m := (x5_2 : Int).toNat) ((Kd.R_reads' (Kd.R_after (ok := (fun _ => True)) (by (with_reducible repeat (first | apply Kd.R_alloc | apply Kd.R_drewN | apply Kd.R_drew)); exact HO_3.out) hg hat)).2.2) KL18.out)); have n3_ := Aside0.mk (ho); clear HO_3; clear HB; clear HR110; clear HO106; have HO_3 := n0_; have HB := n1_; have HR110 := n2_; have HO113 := n3_; clear n0_ n1_ n2_ n3_; clear ho hb hg hat; have p114 : 0 ≤ (x4_1 : Int) := of_decide_eq_true (by first | (with_reducible assumption) | assumption); have q114 : x4_1 < (l0.length : Int) := of_decide_eq_true (by first | (with_reducible assumption) | assumption); obtain ⟨ad114, e114, hx114_0⟩ := Kd.at_string HR0.out x4_1 p114 q114; obtain rfl : ad103 = ad114 := (by injection e114); replace hx114_0 := (HB.out.cell (World.block_lt_of_cell? w _ hx114_0)).trans hx114_0; replace p114 := eq_true p114; replace q114 := eq_true q114) | ((with_reducible refine gate_builtin (b := .append) (xs := #[.tmp 35, .tmp 40]) rfl ?_); at_builtin; refine Kd.R_append Kd.string (w0 := w) w.heap.size rfl (.tmp 35) (.tmp 40) 39 9 (.string ⟨#[]⟩) 16 rfl Tryd.underlying39 info9 rfl (by decide) (by omega) v112 y111 (rdOf ByteArray.empty l0 x4_1) [.string (rdOf ByteArray.empty l0 x4_1)] (fun k_ => some k_ ≠ (.slice (some ad102) x3_1.length co15 : Value).ownBlock) (fun _ => False) rfl rfl ?aP (fun _ hk => hk.elim) ?aF ?aO ?aB ?aS ?aL ?_; (case aP => exact rfl); (case aB => exact (by repeat (first | (with_reducible first | exact HB.out | apply below_alloc | apply pw_below_drewN | apply below_drew1) | exact HB.out))); (case aF => exact (fun k_ hk => Kd.fresh' (Kd.R_lt (by (with_reducible repeat (first | apply Kd.R_alloc | apply Kd.R_drewN | apply Kd.R_drew)); exact HO_3.out)) k_ hk)); (case aO => exact (by (with_reducible repeat (first | apply Kd.R_alloc | apply Kd.R_drewN | apply Kd.R_drew)); exact HO113.out)); (case aS => exact (below_size (by repeat (first | (with_reducible first | exact HB.out | apply below_alloc | apply pw_below_drewN | apply below_drew1) | exact HB.out)))); (case aL => have := LMc11.out; omega); intro v116 w20 ho hb hg hat; rw [← Ny115.out] at ho; have n0_ := Aside0.mk (Kd.R_after (ok := (fun _ => True)) (by (with_reducible repeat (first | apply Kd.R_alloc | apply Kd.R_drewN | apply Kd.R_drew)); exact HO_3.out) hg hat); have n1_ := Aside0.mk (hb); have n2_ := Aside0.mk ((show Kd.C Kd.string w20 (some ad102) y107.length y107 from by rw [Ny107.out]; exact Kd.C_take (m := (x5_2 : Int).toNat) ((Kd.R_reads' (Kd.R_after (ok := (fun _ => True)) (by (with_reducible repeat (first | apply Kd.R_alloc | apply Kd.R_drewN | apply Kd.R_drew)); exact HO_3.out) hg hat)).2.2) KL18.out)); have n3_ := Aside0.mk (ho); clear HO_3; clear HB; clear HR110; clear HO113; have HO_3 := n0_; have HB := n1_; have HR110 := n2_; have HO117 := n3_; clear n0_ n1_ n2_ n3_; clear ho hb hg hat; have q21 : (x5_2 : Int) ≤ ((x3_1.length : Int) : Int) := of_decide_eq_true (by first | (with_reducible assumption) | assumption); obtain ⟨i021, hi021, _, hsz21, _⟩ := info_parts info9; have hroom21 : x3_1.length ≤ co15 := (Kd.R_reads' HO_3.out).2.1; have hC21 : Kd.C Kd.string _ (some ad102) x3_1.length x3_1 := (Kd.R_reads' HO_3.out).2.2; have q021 : (0 : Int) ≤ (x5_2 : Int) := of_decide_eq_true (by first | (with_reducible assumption) | assumption); have hcut21 := cut_from (P := Tryd.prog) 39 9 .i64 Tryd.underlying39 hi021 1 hsz21 (some ad102) x3_1.length co15 x5_2 q021 q21; have hr21 := Kd.C_drop (m := (x5_2 : Int).toNat) (c := co15) hC21 (by omega) hroom21; obtain ⟨A21, hA21⟩ : ∃ A1, A1 = (if co15 = (x5_2 : Int).toNat then (some ad102) else ((some ad102) : Option Addr).map (·.add ((x5_2 : Int).toNat * 1))) := ⟨_, rfl⟩; obtain ⟨c21, hc21⟩ : ∃ c1, c1 = co15 - (x5_2 : Int).toNat := ⟨_, rfl⟩; have hy21 : y118.length = x3_1.length - (x5_2 : Int).toNat := (by rw [Ny118.out, List.length_drop] <;> omega); rw [show (x3_1).drop (x5_2 : Int).toNat = y118 from Ny118.out.symm] at hr21; replace hr21 : Kd.C Kd.string _ A21 y118.length y118 := (by rw [hA21]; exact hr21); rw [← hy21, ← hA21, ← hc21] at hcut21; have HR121 := Aside0.mk hr21; have HC121 := Aside0.mk (show y118.length ≤ c21 from by rw [hy21, hc21]; exact Nat.sub_le_sub_right hroom21 _); clear hr21 hC21 hroom21 hi021 hsz21 hc21; have KY21 := Aside0.mk hy21; have KA21 := Aside0.mk hA21; clear hy21 hA21; have KL21 := Aside0.mk (show (x5_2 : Int).toNat ≤ x3_1.length from by omega); replace q21 := eq_true q21) | ((with_reducible refine gate_builtin (b := .append) (xs := #[.tmp 42, .tmp 45]) rfl ?_); at_builtin; refine Kd.R_append_rows Kd.string (w0 := w) w.heap.size rfl (.tmp 42) (.tmp 45) 39 9 (.string ⟨#[]⟩) 16 rfl Tryd.underlying39 info9 rfl (by decide) (by omega) v116 y115 y118 _ _ _ (fun k_ => some k_ ≠ (.slice (some ad102) x3_1.length co15 : Value).ownBlock) (fun _ => False) rfl rfl ?aO ?aR (fun _ _ h => h) (fun _ h => h.elim) ?aF ?aB ?aS ?aL ?_; (case aR => repeat (first | exact (by repeat (first | (with_reducible exact HR121.out) | (with_reducible refine Kd.C_alloc ?_ _) | (with_reducible refine Kd.C_drewN ?_ _) | (with_reducible refine Kd.C_drew ?_) | exact HR121.out)) | (with_reducible refine Kd.C_alloc ?_ _) | (with_reducible refine Kd.C_drewN ?_ _) | (with_reducible refine Kd.C_drew ?_))); (case aB => exact (by repeat (first | (with_reducible first | exact HB.out | apply below_alloc | apply pw_below_drewN | apply below_drew1) | exact HB.out))); (case aF => exact (fun k_ hk => Kd.fresh' (Kd.R_lt (by (with_reducible repeat (first | apply Kd.R_alloc | apply Kd.R_drewN | apply Kd.R_drew)); exact HO_3.out)) k_ hk)); (case aO => exact (by (with_reducible repeat (first | apply Kd.R_alloc | apply Kd.R_drewN | apply Kd.R_drew)); exact HO117.out)); (case aS => exact (below_size (by repeat (first | (with_reducible first | exact HB.out | apply below_alloc | apply pw_below_drewN | apply below_drew1) | exact HB.out)))); (case aL => have := LMc14.out; omega); intro v123 w22 ho hb hg hat; rw [← Ny122.out] at ho; have n0_ := Aside0.mk (Kd.R_after (ok := (fun _ => True)) (by (with_reducible repeat (first | apply Kd.R_alloc | apply Kd.R_drewN | apply Kd.R_drew)); exact HO_3.out) hg hat); have n1_ := Aside0.mk (hb); have n2_ := Aside0.mk ((show Kd.C Kd.string w22 (some ad102) y107.length y107 from by rw [Ny107.out]; exact Kd.C_take (m := (x5_2 : Int).toNat) ((Kd.R_reads' (Kd.R_after (ok := (fun _ => True)) (by (with_reducible repeat (first | apply Kd.R_alloc | apply Kd.R_drewN | apply Kd.R_drew)); exact HO_3.out) hg hat)).2.2) KL18.out)); have n3_ := Aside0.mk ((show Kd.C Kd.string w22 A21 y118.length y118 from by rw [Ny118.out, KA21.out]; exact Kd.C_drop (m := (x5_2 : Int).toNat) (c := co15) ((Kd.R_reads' (Kd.R_after (ok := (fun _ => True)) (by (with_reducible repeat (first | apply Kd.R_alloc | apply Kd.R_drewN | apply Kd.R_drew)); exact HO_3.out) hg hat)).2.2) KL21.out ((Kd.R_reads' (Kd.R_after (ok := (fun _ => True)) (by (with_reducible repeat (first | apply Kd.R_alloc | apply Kd.R_drewN | apply Kd.R_drew)); exact HO_3.out) hg hat)).2.1))); have n4_ := Aside0.mk (ho); clear HO_3; clear HB; clear HR110; clear HR121; clear HO117; have HO_3 := n0_; have HB := n1_; have HR110 := n2_; have HR121 := n3_; have HO124 := n4_; clear n0_ n1_ n2_ n3_ n4_; clear ho hb hg hat)); try go_wp2_with (first | ((with_reducible refine gate_dst (N := 30) rfl ?_); refine Kd.R_lit Kd.string _ 9 ?hg (N := 30) ?hd (xs := ([] : List ByteArray)) (inner := []) (ok := fun _ => True) (okp := fun _ => True) ?hr ?hp (fun _ hk => hk) trivial (Below.refl _ _) (Nat.le_refl _) (by simp) ?_; (case hd => rfl); (case hg => rfl); (case hr => first | (go_simp; done) | (go_simp; rfl)); (case hp => exact (Reps.none _ _)); intro v105 w16 ho17 hb hg_ hnew_; clear hg_ hnew_; (first | rw [← Ny104.out] at ho17 | (simp only [Int.reduceToNat] at ho17; rw [← Ny104.out] at ho17)); have n0_ := Aside0.mk (Kd.R_elder' (by (with_reducible repeat (first | apply Kd.R_alloc | apply Kd.R_drewN | apply Kd.R_drew)); exact HO_3.out) (Kd.R_base ho17) hb); have n1_ := Aside0.mk (Kd.R_lower (Kd.R_new' ho17 (Kd.R_lt (by (with_reducible repeat (first | apply Kd.R_alloc | apply Kd.R_drewN | apply Kd.R_drew)); exact HO_3.out))) (below_size (by repeat (first | (with_reducible first | exact HB.out | apply below_alloc | apply pw_below_drewN | apply below_drew1) | exact HB.out)))); have n2_ := Aside0.mk (below_step (by repeat (first | (with_reducible first | exact HB.out | apply below_alloc | apply pw_below_drewN | apply below_drew1) | exact HB.out)) hb); clear HO_3; clear HB; have HO_3 := n0_; have HO106 := n1_; have HB := n2_; clear n0_ n1_ n2_; clear hb ho17; have q18 : (x5_2 : Int) ≤ ((x3_1.length : Int) : Int) := of_decide_eq_true (by first | (with_reducible assumption) | assumption); obtain ⟨i018, hi018, _, hsz18, _⟩ := info_parts info9; have hroom18 : x3_1.length ≤ co15 := (Kd.R_reads' HO_3.out).2.1; have hC18 : Kd.C Kd.string _ (some ad102) x3_1.length x3_1 := (Kd.R_reads' HO_3.out).2.2; have hcut18 := cut_to (P := Tryd.prog) 39 9 .i64 Tryd.underlying39 hi018 (some ad102) x3_1.length co15 x5_2 (of_decide_eq_true (by first | (with_reducible assumption) | assumption)) q18 hroom18; have hr18 := Kd.C_take (m := (x5_2 : Int).toNat) hC18 (by omega); have hy18 : y107.length = (x5_2 : Int).toNat := (by rw [Ny107.out, List.length_take]; omega); rw [← Ny107.out] at hr18; rw [← hy18] at hcut18; have HR110 := Aside0.mk hr18; have HC110 := Aside0.mk (show y107.length ≤ co15 from by omega); clear hr18 hC18 hroom18 hi018 hsz18; have KY18 := Aside0.mk hy18; clear hy18; have KL18 := Aside0.mk (show (x5_2 : Int).toNat ≤ x3_1.length from by omega); replace q18 := eq_true q18) | ((with_reducible refine gate_builtin (b := .append) (xs := #[.tmp 30, .tmp 33]) rfl ?_); at_builtin; refine Kd.R_append_rows Kd.string (w0 := w) w.heap.size rfl (.tmp 30) (.tmp 33) 39 9 (.string ⟨#[]⟩) 16 rfl Tryd.underlying39 info9 rfl (by decide) (by omega) v105 y104 y107 _ _ _ (fun k_ => some k_ ≠ (.slice (some ad102) x3_1.length co15 : Value).ownBlock) (fun _ => False) rfl rfl ?aO ?aR (fun _ _ h => h) (fun _ h => h.elim) ?aF ?aB ?aS ?aL ?_; (case aR => repeat (first | exact (by repeat (first | (with_reducible exact HR110.out) | (with_reducible refine Kd.C_alloc ?_ _) | (with_reducible refine Kd.C_drewN ?_ _) | (with_reducible refine Kd.C_drew ?_) | exact HR110.out)) | (with_reducible refine Kd.C_alloc ?_ _) | (with_reducible refine Kd.C_drewN ?_ _) | (with_reducible refine Kd.C_drew ?_))); (case aB => exact (by repeat (first | (with_reducible first | exact HB.out | apply below_alloc | apply pw_below_drewN | apply below_drew1) | exact HB.out))); (case aF => exact (fun k_ hk => Kd.fresh' (Kd.R_lt (by (with_reducible repeat (first | apply Kd.R_alloc | apply Kd.R_drewN | apply Kd.R_drew)); exact HO_3.out)) k_ hk)); (case aO => exact (by (with_reducible repeat (first | apply Kd.R_alloc | apply Kd.R_drewN | apply Kd.R_drew)); exact Kd.R_mono HO106.out (fun _ hk => hk.2))); (case aS => exact (below_size (by repeat (first | (with_reducible first | exact HB.out | apply below_alloc | apply pw_below_drewN | apply below_drew1) | exact HB.out)))); (case aL => have := LMc10.out; omega); intro v112 w19 ho hb hg hat; rw [← Ny111.out] at ho; have n0_ := Aside0.mk (Kd.R_after (ok := (fun _ => True)) (by (with_reducible repeat (first | apply Kd.R_alloc | apply Kd.R_drewN | apply Kd.R_drew)); exact HO_3.out) hg hat); have n1_ := Aside0.mk (hb); have n2_ := Aside0.mk ((show Kd.C Kd.string w19 (some ad102) y107.length y107 from by rw [Ny107.out]; exact Kd.C_take (m := (x5_2 : Int).toNat) ((Kd.R_reads' (Kd.R_after (ok := (fun _ => True)) (by (with_reducible repeat (first | apply Kd.R_alloc | apply Kd.R_drewN | apply Kd.R_drew)); exact HO_3.out) hg hat)).2.2) KL18.out)); have n3_ := Aside0.mk (ho); clear HO_3; clear HB; clear HR110; clear HO106; have HO_3 := n0_; have HB := n1_; have HR110 := n2_; have HO113 := n3_; clear n0_ n1_ n2_ n3_; clear ho hb hg hat; have p114 : 0 ≤ (x4_1 : Int) := of_decide_eq_true (by first | (with_reducible assumption) | assumption); have q114 : x4_1 < (l0.length : Int) := of_decide_eq_true (by first | (with_reducible assumption) | assumption); obtain ⟨ad114, e114, hx114_0⟩ := Kd.at_string HR0.out x4_1 p114 q114; obtain rfl : ad103 = ad114 := (by injection e114); replace hx114_0 := (HB.out.cell (World.block_lt_of_cell? w _ hx114_0)).trans hx114_0; replace p114 := eq_true p114; replace q114 := eq_true q114) | ((with_reducible refine gate_builtin (b := .append) (xs := #[.tmp 35, .tmp 40]) rfl ?_); at_builtin; refine Kd.R_append Kd.string (w0 := w) w.heap.size rfl (.tmp 35) (.tmp 40) 39 9 (.string ⟨#[]⟩) 16 rfl Tryd.underlying39 info9 rfl (by decide) (by omega) v112 y111 (rdOf ByteArray.empty l0 x4_1) [.string (rdOf ByteArray.empty l0 x4_1)] (fun k_ => some k_ ≠ (.slice (some ad102) x3_1.length co15 : Value).ownBlock) (fun _ => False) rfl rfl ?aP (fun _ hk => hk.elim) ?aF ?aO ?aB ?aS ?aL ?_; (case aP => exact rfl); (case aB => exact (by repeat (first | (with_reducible first | exact HB.out | apply below_alloc | apply pw_below_drewN | apply below_drew1) | exact HB.out))); (case aF => exact (fun k_ hk => Kd.fresh' (Kd.R_lt (by (with_reducible repeat (first | apply Kd.R_alloc | apply Kd.R_drewN | apply Kd.R_drew)); exact HO_3.out)) k_ hk)); (case aO => exact (by (with_reducible repeat (first | apply Kd.R_alloc | apply Kd.R_drewN | apply Kd.R_drew)); exact HO113.out)); (case aS => exact (below_size (by repeat (first | (with_reducible first | exact HB.out | apply below_alloc | apply pw_below_drewN | apply below_drew1) | exact HB.out)))); (case aL => have := LMc11.out; omega); intro v116 w20 ho hb hg hat; rw [← Ny115.out] at ho; have n0_ := Aside0.mk (Kd.R_after (ok := (fun _ => True)) (by (with_reducible repeat (first | apply Kd.R_alloc | apply Kd.R_drewN | apply Kd.R_drew)); exact HO_3.out) hg hat); have n1_ := Aside0.mk (hb); have n2_ := Aside0.mk ((show Kd.C Kd.string w20 (some ad102) y107.length y107 from by rw [Ny107.out]; exact Kd.C_take (m := (x5_2 : Int).toNat) ((Kd.R_reads' (Kd.R_after (ok := (fun _ => True)) (by (with_reducible repeat (first | apply Kd.R_alloc | apply Kd.R_drewN | apply Kd.R_drew)); exact HO_3.out) hg hat)).2.2) KL18.out)); have n3_ := Aside0.mk (ho); clear HO_3; clear HB; clear HR110; clear HO113; have HO_3 := n0_; have HB := n1_; have HR110 := n2_; have HO117 := n3_; clear n0_ n1_ n2_ n3_; clear ho hb hg hat; have q21 : (x5_2 : Int) ≤ ((x3_1.length : Int) : Int) := of_decide_eq_true (by first | (with_reducible assumption) | assumption); obtain ⟨i021, hi021, _, hsz21, _⟩ := info_parts info9; have hroom21 : x3_1.length ≤ co15 := (Kd.R_reads' HO_3.out).2.1; have hC21 : Kd.C Kd.string _ (some ad102) x3_1.length x3_1 := (Kd.R_reads' HO_3.out).2.2; have q021 : (0 : Int) ≤ (x5_2 : Int) := of_decide_eq_true (by first | (with_reducible assumption) | assumption); have hcut21 := cut_from (P := Tryd.prog) 39 9 .i64 Tryd.underlying39 hi021 1 hsz21 (some ad102) x3_1.length co15 x5_2 q021 q21; have hr21 := Kd.C_drop (m := (x5_2 : Int).toNat) (c := co15) hC21 (by omega) hroom21; obtain ⟨A21, hA21⟩ : ∃ A1, A1 = (if co15 = (x5_2 : Int).toNat then (some ad102) else ((some ad102) : Option Addr).map (·.add ((x5_2 : Int).toNat * 1))) := ⟨_, rfl⟩; obtain ⟨c21, hc21⟩ : ∃ c1, c1 = co15 - (x5_2 : Int).toNat := ⟨_, rfl⟩; have hy21 : y118.length = x3_1.length - (x5_2 : Int).toNat := (by rw [Ny118.out, List.length_drop] <;> omega); rw [show (x3_1).drop (x5_2 : Int).toNat = y118 from Ny118.out.symm] at hr21; replace hr21 : Kd.C Kd.string _ A21 y118.length y118 := (by rw [hA21]; exact hr21); rw [← hy21, ← hA21, ← hc21] at hcut21; have HR121 := Aside0.mk hr21; have HC121 := Aside0.mk (show y118.length ≤ c21 from by rw [hy21, hc21]; exact Nat.sub_le_sub_right hroom21 _); clear hr21 hC21 hroom21 hi021 hsz21 hc21; have KY21 := Aside0.mk hy21; have KA21 := Aside0.mk hA21; clear hy21 hA21; have KL21 := Aside0.mk (show (x5_2 : Int).toNat ≤ x3_1.length from by omega); replace q21 := eq_true q21) | ((with_reducible refine gate_builtin (b := .append) (xs := #[.tmp 42, .tmp 45]) rfl ?_); at_builtin; refine Kd.R_append_rows Kd.string (w0 := w) w.heap.size rfl (.tmp 42) (.tmp 45) 39 9 (.string ⟨#[]⟩) 16 rfl Tryd.underlying39 info9 rfl (by decide) (by omega) v116 y115 y118 _ _ _ (fun k_ => some k_ ≠ (.slice (some ad102) x3_1.length co15 : Value).ownBlock) (fun _ => False) rfl rfl ?aO ?aR (fun _ _ h => h) (fun _ h => h.elim) ?aF ?aB ?aS ?aL ?_; (case aR => repeat (first | exact (by repeat (first | (with_reducible exact HR121.out) | (with_reducible refine Kd.C_alloc ?_ _) | (with_reducible refine Kd.C_drewN ?_ _) | (with_reducible refine Kd.C_drew ?_) | exact HR121.out)) | (with_reducible refine Kd.C_alloc ?_ _) | (with_reducible refine Kd.C_drewN ?_ _) | (with_reducible refine Kd.C_drew ?_))); (case aB => exact (by repeat (first | (with_reducible first | exact HB.out | apply below_alloc | apply pw_below_drewN | apply below_drew1) | exact HB.out))); (case aF => exact (fun k_ hk => Kd.fresh' (Kd.R_lt (by (with_reducible repeat (first | apply Kd.R_alloc | apply Kd.R_drewN | apply Kd.R_drew)); exact HO_3.out)) k_ hk)); (case aO => exact (by (with_reducible repeat (first | apply Kd.R_alloc | apply Kd.R_drewN | apply Kd.R_drew)); exact HO117.out)); (case aS => exact (below_size (by repeat (first | (with_reducible first | exact HB.out | apply below_alloc | apply pw_below_drewN | apply below_drew1) | exact HB.out)))); (case aL => have := LMc14.out; omega); intro v123 w22 ho hb hg hat; rw [← Ny122.out] at ho; have n0_ := Aside0.mk (Kd.R_after (ok := (fun _ => True)) (by (with_reducible repeat (first | apply Kd.R_alloc | apply Kd.R_drewN | apply Kd.R_drew)); exact HO_3.out) hg hat); have n1_ := Aside0.mk (hb); have n2_ := Aside0.mk ((show Kd.C Kd.string w22 (some ad102) y107.length y107 from by rw [Ny107.out]; exact Kd.C_take (m := (x5_2 : Int).toNat) ((Kd.R_reads' (Kd.R_after (ok := (fun _ => True)) (by (with_reducible repeat (first | apply Kd.R_alloc | apply Kd.R_drewN | apply Kd.R_drew)); exact HO_3.out) hg hat)).2.2) KL18.out)); have n3_ := Aside0.mk ((show Kd.C Kd.string w22 A21 y118.length y118 from by rw [Ny118.out, KA21.out]; exact Kd.C_drop (m := (x5_2 : Int).toNat) (c := co15) ((Kd.R_reads' (Kd.R_after (ok := (fun _ => True)) (by (with_reducible repeat (first | apply Kd.R_alloc | apply Kd.R_drewN | apply Kd.R_drew)); exact HO_3.out) hg hat)).2.2) KL21.out ((Kd.R_reads' (Kd.R_after (ok := (fun _ => True)) (by (with_reducible repeat (first | apply Kd.R_alloc | apply Kd.R_drewN | apply Kd.R_drew)); exact HO_3.out) hg hat)).2.1))); have n4_ := Aside0.mk (ho); clear HO_3; clear HB; clear HR110; clear HR121; clear HO117; have HO_3 := n0_; have HB := n1_; have HR110 := n2_; have HR121 := n3_; have HO124 := n4_; clear n0_ n1_ n2_ n3_ n4_; clear ho hb hg hat)))
                              go_roundg k2
                              case measure => have := HK1.out; have := HK2.out; omega
                              case rel => exact ⟨(y122), (wrap64 (x4_1 + 1)), (by first | rfl | (simp; done) | (simp [*]; done)), H', ⟨by have := HK1.out; have := HK2.out; omega⟩, ⟨by (with_reducible repeat (first | apply Kd.R_alloc | apply Kd.R_drewN | apply Kd.R_drew)); exact Kd.R_mono HO124.out (fun _ hk => trivial)⟩, ⟨by repeat (first | (with_reducible first | exact HB.out | apply below_alloc | apply pw_below_drewN | apply below_drew1) | exact HB.out)⟩⟩
                            · rw [if_neg c14] at H
                              exact absurd H (by simp)
                          · rw [if_neg c11] at H
                            exact absurd H (by simp)
                        · rw [if_neg c10] at H
                          exact absurd H (by simp)
                      · rw [if_neg c9] at H
                        exact absurd H (by simp)
                    · rw [if_neg c7] at H
                      have c7b0 : (Op.bytesLess ((rdOf ByteArray.empty l0 x4_1).toList) ((rdOf ByteArray.empty x3_1 x5_2).toList)) = false := by simpa using c7
                      have c7le : ∀ W, Sem.run Tryd.prog (binOp BinOp.leq 9 (Value.string (rdOf ByteArray.empty x3_1 x5_2)) (Value.string (rdOf ByteArray.empty l0 x4_1))) W = .ok (Value.bool true) W := fun W => by rw [show true = !(Op.bytesLess (rdOf ByteArray.empty l0 x4_1).toList (rdOf ByteArray.empty x3_1 x5_2).toList) by rw [c7b0]; rfl, ← bl_le]; rfl
                      clear c7
                      have H' := Aside0.mk H
                      clear H
                      obtain ⟨Ao23, co23, eo23⟩ := Kd.R_slice HO_3.out
                      subst eo23
                      have p102 : 0 ≤ (x5_2 : Int) := of_decide_eq_true (by first | (with_reducible assumption) | assumption)
                      have q102 : x5_2 < (x3_1.length : Int) := of_decide_eq_true (by first | (with_reducible assumption) | assumption)
                      obtain ⟨ad102, e102, hx102_0⟩ := Kd.at_string (Kd.R_reads' HO_3.out).2.2 x5_2 p102 q102
                      cases e102
                      replace p102 := eq_true p102
                      replace q102 := eq_true q102
                      have p103 : 0 ≤ (x4_1 : Int) := of_decide_eq_true (by first | (with_reducible assumption) | assumption)
                      have q103 : x4_1 < (l0.length : Int) := of_decide_eq_true (by first | (with_reducible assumption) | assumption)
                      obtain ⟨ad103, e103, hx103_0⟩ := Kd.at_string HR0.out x4_1 p103 q103
                      cases e103
                      replace hx103_0 := (HB.out.cell (World.block_lt_of_cell? w _ hx103_0)).trans hx103_0
                      replace p103 := eq_true p103
                      replace q103 := eq_true q103
                      go_wp2
                      repeat (go_quiet (fail); try go_wp2)
                      go_roundg k2
                      case measure => have := HK1.out; have := HK2.out; omega
                      case rel => exact ⟨(wrap64 (x5_2 + 1)), (by first | rfl | (simp; done) | (simp [*]; done)), H', ⟨by have := HK1.out; have := HK2.out; omega⟩, ⟨by (with_reducible repeat (first | apply Kd.R_alloc | apply Kd.R_drewN | apply Kd.R_drew)); exact HO_3.out⟩, ⟨by repeat (first | (with_reducible first | exact HB.out | apply below_alloc | apply pw_below_drewN | apply below_drew1) | exact HB.out)⟩⟩
                  · rw [if_neg c6] at H
                    exact absurd H (by simp)
                · rw [if_neg c5] at H
                  exact absurd H (by simp)
              · rw [if_neg c4] at H
                exact absurd H (by simp)
            · rw [if_neg c3] at H
              have c3b0 : decide (x5_2 < (x3_1.length : Int)) = false := decide_eq_false c3
              clear c3
              obtain ⟨y125, hy125⟩ : ∃ y_ : List ByteArray, y_ = (([] : List ByteArray)) := ⟨_, rfl⟩
              replace H : (if 0 ≤ x5_2 then (if x5_2 ≤ (x3_1.length : Int) then ((some (x3_1.take (x5_2 : Int).toNat : List ByteArray)).bind fun y128 => (if y125.length + y128.length < 8796093022208 then ((some (y125 ++ y128 : List ByteArray)).bind fun y132 => (if 0 ≤ x4_1 then (if x4_1 < (l0.length : Int) then (if y132.length < 8796093022208 then ((some (y132 ++ [rdOf ByteArray.empty l0 x4_1] : List ByteArray)).bind fun y136 => ((some (x3_1.drop (x5_2 : Int).toNat : List ByteArray)).bind fun y139 => (if y136.length + y139.length < 8796093022208 then (spec_sorted.l0 k2 l0 (y136 ++ y139) (wrap64 (x4_1 + 1))) else (none)))) else (none)) else (none)) else (none))) else (none))) else (none)) else (none)) = some r := by first | (rw [hy125]; with_reducible exact H) | (have H2_ := (Option.bind_some _ _).symm.trans H; rw [hy125]; with_reducible exact H2_) | (have H2_ := (Option.bind_some _ _).symm.trans H; with_reducible exact H2_) | with_reducible exact H | (rw [hy125]; exact H) | exact H
              have Ny125 := Aside0.mk hy125
              clear hy125
              by_cases c24 : 0 ≤ x5_2
              · rw [if_pos c24] at H
                have c24b0 := eq_true c24
                have c24b1 : decide (0 ≤ x5_2) = true := decide_eq_true c24
                clear c24
                by_cases c25 : x5_2 ≤ (x3_1.length : Int)
                · rw [if_pos c25] at H
                  have c25b0 := eq_true c25
                  have c25b1 : decide (x5_2 ≤ (x3_1.length : Int)) = true := decide_eq_true c25
                  clear c25
                  obtain ⟨y128, hy128⟩ : ∃ y_ : List ByteArray, y_ = (x3_1.take (x5_2 : Int).toNat) := ⟨_, rfl⟩
                  replace H : (if y125.length + y128.length < 8796093022208 then ((some (y125 ++ y128 : List ByteArray)).bind fun y132 => (if 0 ≤ x4_1 then (if x4_1 < (l0.length : Int) then (if y132.length < 8796093022208 then ((some (y132 ++ [rdOf ByteArray.empty l0 x4_1] : List ByteArray)).bind fun y136 => ((some (x3_1.drop (x5_2 : Int).toNat : List ByteArray)).bind fun y139 => (if y136.length + y139.length < 8796093022208 then (spec_sorted.l0 k2 l0 (y136 ++ y139) (wrap64 (x4_1 + 1))) else (none)))) else (none)) else (none)) else (none))) else (none)) = some r := by first | (rw [hy128]; with_reducible exact H) | (have H2_ := (Option.bind_some _ _).symm.trans H; rw [hy128]; with_reducible exact H2_) | (have H2_ := (Option.bind_some _ _).symm.trans H; with_reducible exact H2_) | with_reducible exact H | (rw [hy128]; exact H) | exact H
                  have Ny128 := Aside0.mk hy128
                  clear hy128
                  by_cases c26 : y125.length + y128.length < 8796093022208
                  · rw [if_pos c26] at H
                    have LMc26 := Aside0.mk c26
                    clear c26
                    obtain ⟨y132, hy132⟩ : ∃ y_ : List ByteArray, y_ = (y125 ++ y128) := ⟨_, rfl⟩
                    replace H : (if 0 ≤ x4_1 then (if x4_1 < (l0.length : Int) then (if y132.length < 8796093022208 then ((some (y132 ++ [rdOf ByteArray.empty l0 x4_1] : List ByteArray)).bind fun y136 => ((some (x3_1.drop (x5_2 : Int).toNat : List ByteArray)).bind fun y139 => (if y136.length + y139.length < 8796093022208 then (spec_sorted.l0 k2 l0 (y136 ++ y139) (wrap64 (x4_1 + 1))) else (none)))) else (none)) else (none)) else (none)) = some r := by first | (rw [hy132]; with_reducible exact H) | (have H2_ := (Option.bind_some _ _).symm.trans H; rw [hy132]; with_reducible exact H2_) | (have H2_ := (Option.bind_some _ _).symm.trans H; with_reducible exact H2_) | with_reducible exact H | (rw [hy132]; exact H) | exact H
                    have Ny132 := Aside0.mk hy132
                    clear hy132
                    by_cases c27 : 0 ≤ x4_1
                    · rw [if_pos c27] at H
                      have c27b0 : decide (0 ≤ x4_1) = true := decide_eq_true c27
                      clear c27
                      by_cases c28 : x4_1 < (l0.length : Int)
                      · rw [if_pos c28] at H
                        have c28b0 : decide (x4_1 < (l0.length : Int)) = true := decide_eq_true c28
                        clear c28
                        by_cases c29 : y132.length < 8796093022208
                        · rw [if_pos c29] at H
                          have LMc29 := Aside0.mk c29
                          clear c29
                          obtain ⟨y136, hy136⟩ : ∃ y_ : List ByteArray, y_ = (y132 ++ [rdOf ByteArray.empty l0 x4_1]) := ⟨_, rfl⟩
                          replace H : ((some (x3_1.drop (x5_2 : Int).toNat : List ByteArray)).bind fun y139 => (if y136.length + y139.length < 8796093022208 then (spec_sorted.l0 k2 l0 (y136 ++ y139) (wrap64 (x4_1 + 1))) else (none))) = some r := by first | (rw [hy136]; with_reducible exact H) | (have H2_ := (Option.bind_some _ _).symm.trans H; rw [hy136]; with_reducible exact H2_) | (have H2_ := (Option.bind_some _ _).symm.trans H; with_reducible exact H2_) | with_reducible exact H | (rw [hy136]; exact H) | exact H
                          have Ny136 := Aside0.mk hy136
                          clear hy136
                          have c30b0 := eq_true (of_decide_eq_true (by first | (with_reducible assumption) | assumption) : 0 ≤ x5_2)
                          have c31b0 := eq_true (of_decide_eq_true (by first | (with_reducible assumption) | assumption) : x5_2 ≤ (x3_1.length : Int))
                          obtain ⟨y139, hy139⟩ : ∃ y_ : List ByteArray, y_ = (x3_1.drop (x5_2 : Int).toNat) := ⟨_, rfl⟩
                          replace H : (if y136.length + y139.length < 8796093022208 then (spec_sorted.l0 k2 l0 (y136 ++ y139) (wrap64 (x4_1 + 1))) else (none)) = some r := by first | (rw [hy139]; with_reducible exact H) | (have H2_ := (Option.bind_some _ _).symm.trans H; rw [hy139]; with_reducible exact H2_) | (have H2_ := (Option.bind_some _ _).symm.trans H; with_reducible exact H2_) | with_reducible exact H | (rw [hy139]; exact H) | exact H
                          have Ny139 := Aside0.mk hy139
                          clear hy139
                          by_cases c32 : y136.length + y139.length < 8796093022208
                          · rw [if_pos c32] at H
                            have LMc32 := Aside0.mk c32
                            clear c32
                            obtain ⟨y143, hy143⟩ : ∃ y_ : List ByteArray, y_ = (y136 ++ y139) := ⟨_, rfl⟩
                            replace H : (spec_sorted.l0 k2 l0 y143 (wrap64 (x4_1 + 1))) = some r := by first | (rw [hy143]; with_reducible exact H) | (have H2_ := (Option.bind_some _ _).symm.trans H; rw [hy143]; with_reducible exact H2_) | (have H2_ := (Option.bind_some _ _).symm.trans H; with_reducible exact H2_) | with_reducible exact H | (rw [hy143]; exact H) | exact H
                            have Ny143 := Aside0.mk hy143
                            clear hy143
                            have H' := Aside0.mk H
                            clear H
                            obtain ⟨Ao33, co33, eo33⟩ := Kd.R_slice HO_3.out
                            subst eo33
                            go_wp2_with (first | ((with_reducible refine gate_dst (N := 30) rfl ?_); refine Kd.R_lit Kd.string _ 9 ?hg (N := 30) ?hd (xs := ([] : List ByteArray)) (inner := []) (ok := fun _ => True) (okp := fun _ => True) ?hr ?hp (fun _ hk => hk) trivial (Below.refl _ _) (Nat.le_refl _) (by simp) ?_; (case hd => rfl); (case hg => rfl); (case hr => first | (go_simp; done) | (go_simp; rfl)); (case hp => exact (Reps.none _ _)); intro v126 w34 ho35 hb hg_ hnew_; clear hg_ hnew_; (first | rw [← Ny125.out] at ho35 | (simp only [Int.reduceToNat] at ho35; rw [← Ny125.out] at ho35)); have n0_ := Aside0.mk (Kd.R_elder' (by (with_reducible repeat (first | apply Kd.R_alloc | apply Kd.R_drewN | apply Kd.R_drew)); exact HO_3.out) (Kd.R_base ho35) hb); have n1_ := Aside0.mk (Kd.R_lower (Kd.R_new' ho35 (Kd.R_lt (by (with_reducible repeat (first | apply Kd.R_alloc | apply Kd.R_drewN | apply Kd.R_drew)); exact HO_3.out))) (below_size (by repeat (first | (with_reducible first | exact HB.out | apply below_alloc | apply pw_below_drewN | apply below_drew1) | exact HB.out)))); have n2_ := Aside0.mk (below_step (by repeat (first | (with_reducible first | exact HB.out | apply below_alloc | apply pw_below_drewN | apply below_drew1) | exact HB.out)) hb); clear HO_3; clear HB; have HO_3 := n0_; have HO127 := n1_; have HB := n2_; clear n0_ n1_ n2_; clear hb ho35; have q36 : (x5_2 : Int) ≤ ((x3_1.length : Int) : Int) := of_decide_eq_true (by first | (with_reducible assumption) | assumption); obtain ⟨i036, hi036, _, hsz36, _⟩ := info_parts info9; have hroom36 : x3_1.length ≤ co33 := (Kd.R_reads' HO_3.out).2.1; have hC36 : Kd.C Kd.string _ Ao33 x3_1.length x3_1 := (Kd.R_reads' HO_3.out).2.2; have hcut36 := cut_to (P := Tryd.prog) 39 9 .i64 Tryd.underlying39 hi036 Ao33 x3_1.length co33 x5_2 (of_decide_eq_true (by first | (with_reducible assumption) | assumption)) q36 hroom36; have hr36 := Kd.C_take (m := (x5_2 : Int).toNat) hC36 (by omega); have hy36 : y128.length = (x5_2 : Int).toNat := (by rw [Ny128.out, List.length_take]; omega); rw [← Ny128.out] at hr36; rw [← hy36] at hcut36; have HR131 := Aside0.mk hr36; have HC131 := Aside0.mk (show y128.length ≤ co33 from by omega); clear hr36 hC36 hroom36 hi036 hsz36; have KY36 := Aside0.mk hy36; clear hy36; have KL36 := Aside0.mk (show (x5_2 : Int).toNat ≤ x3_1.length from by omega); replace q36 := eq_true q36) | ((with_reducible refine gate_builtin (b := .append) (xs := #[.tmp 30, .tmp 33]) rfl ?_); at_builtin; refine Kd.R_append_rows Kd.string (w0 := w) w.heap.size rfl (.tmp 30) (.tmp 33) 39 9 (.string ⟨#[]⟩) 16 rfl Tryd.underlying39 info9 rfl (by decide) (by omega) v126 y125 y128 _ _ _ (fun k_ => some k_ ≠ (.slice Ao33 x3_1.length co33 : Value).ownBlock) (fun _ => False) rfl rfl ?aO ?aR (fun _ _ h => h) (fun _ h => h.elim) ?aF ?aB ?aS ?aL ?_; (case aR => repeat (first | exact (by repeat (first | (with_reducible exact HR131.out) | (with_reducible refine Kd.C_alloc ?_ _) | (with_reducible refine Kd.C_drewN ?_ _) | (with_reducible refine Kd.C_drew ?_) | exact HR131.out)) | (with_reducible refine Kd.C_alloc ?_ _) | (with_reducible refine Kd.C_drewN ?_ _) | (with_reducible refine Kd.C_drew ?_))); (case aB => exact (by repeat (first | (with_reducible first | exact HB.out | apply below_alloc | apply pw_below_drewN | apply below_drew1) | exact HB.out))); (case aF => exact (fun k_ hk => Kd.fresh' (Kd.R_lt (by (with_reducible repeat (first | apply Kd.R_alloc | apply Kd.R_drewN | apply Kd.R_drew)); exact HO_3.out)) k_ hk)); (case aO => exact (by (with_reducible repeat (first | apply Kd.R_alloc | apply Kd.R_drewN | apply Kd.R_drew)); exact Kd.R_mono HO127.out (fun _ hk => hk.2))); (case aS => exact (below_size (by repeat (first | (with_reducible first | exact HB.out | apply below_alloc | apply pw_below_drewN | apply below_drew1) | exact HB.out)))); (case aL => have := LMc26.out; omega); intro v133 w37 ho hb hg hat; rw [← Ny132.out] at ho; have n0_ := Aside0.mk (Kd.R_after (ok := (fun _ => True)) (by (with_reducible repeat (first | apply Kd.R_alloc | apply Kd.R_drewN | apply Kd.R_drew)); exact HO_3.out) hg hat); have n1_ := Aside0.mk (hb); have n2_ := Aside0.mk ((show Kd.C Kd.string w37 Ao33 y128.length y128 from by rw [Ny128.out]; exact Kd.C_take (m := (x5_2 : Int).toNat) ((Kd.R_reads' (Kd.R_after (ok := (fun _ => True)) (by (with_reducible repeat (first | apply Kd.R_alloc | apply Kd.R_drewN | apply Kd.R_drew)); exact HO_3.out) hg hat)).2.2) KL36.out)); have n3_ := Aside0.mk (ho); clear HO_3; clear HB; clear HR131; clear HO127; have HO_3 := n0_; have HB := n1_; have HR131 := n2_; have HO134 := n3_; clear n0_ n1_ n2_ n3_; clear ho hb hg hat; have p135 : 0 ≤ (x4_1 : Int) := of_decide_eq_true (by first | (with_reducible assumption) | assumption); have q135 : x4_1 < (l0.length : Int) := of_decide_eq_true (by first | (with_reducible assumption) | assumption); obtain ⟨ad135, e135, hx135_0⟩ := Kd.at_string HR0.out x4_1 p135 q135; cases e135; replace hx135_0 := (HB.out.cell (World.block_lt_of_cell? w _ hx135_0)).trans hx135_0; replace p135 := eq_true p135; replace q135 := eq_true q135) | ((with_reducible refine gate_builtin (b := .append) (xs := #[.tmp 35, .tmp 40]) rfl ?_); at_builtin; refine Kd.R_append Kd.string (w0 := w) w.heap.size rfl (.tmp 35) (.tmp 40) 39 9 (.string ⟨#[]⟩) 16 rfl Tryd.underlying39 info9 rfl (by decide) (by omega) v133 y132 (rdOf ByteArray.empty l0 x4_1) [.string (rdOf ByteArray.empty l0 x4_1)] (fun k_ => some k_ ≠ (.slice Ao33 x3_1.length co33 : Value).ownBlock) (fun _ => False) rfl rfl ?aP (fun _ hk => hk.elim) ?aF ?aO ?aB ?aS ?aL ?_; (case aP => exact rfl); (case aB => exact (by repeat (first | (with_reducible first | exact HB.out | apply below_alloc | apply pw_below_drewN | apply below_drew1) | exact HB.out))); (case aF => exact (fun k_ hk => Kd.fresh' (Kd.R_lt (by (with_reducible repeat (first | apply Kd.R_alloc | apply Kd.R_drewN | apply Kd.R_drew)); exact HO_3.out)) k_ hk)); (case aO => exact (by (with_reducible repeat (first | apply Kd.R_alloc | apply Kd.R_drewN | apply Kd.R_drew)); exact HO134.out)); (case aS => exact (below_size (by repeat (first | (with_reducible first | exact HB.out | apply below_alloc | apply pw_below_drewN | apply below_drew1) | exact HB.out)))); (case aL => have := LMc29.out; omega); intro v137 w38 ho hb hg hat; rw [← Ny136.out] at ho; have n0_ := Aside0.mk (Kd.R_after (ok := (fun _ => True)) (by (with_reducible repeat (first | apply Kd.R_alloc | apply Kd.R_drewN | apply Kd.R_drew)); exact HO_3.out) hg hat); have n1_ := Aside0.mk (hb); have n2_ := Aside0.mk ((show Kd.C Kd.string w38 Ao33 y128.length y128 from by rw [Ny128.out]; exact Kd.C_take (m := (x5_2 : Int).toNat) ((Kd.R_reads' (Kd.R_after (ok := (fun _ => True)) (by (with_reducible repeat (first | apply Kd.R_alloc | apply Kd.R_drewN | apply Kd.R_drew)); exact HO_3.out) hg hat)).2.2) KL36.out)); have n3_ := Aside0.mk (ho); clear HO_3; clear HB; clear HR131; clear HO134; have HO_3 := n0_; have HB := n1_; have HR131 := n2_; have HO138 := n3_; clear n0_ n1_ n2_ n3_; clear ho hb hg hat; have q39 : (x5_2 : Int) ≤ ((x3_1.length : Int) : Int) := of_decide_eq_true (by first | (with_reducible assumption) | assumption); obtain ⟨i039, hi039, _, hsz39, _⟩ := info_parts info9; have hroom39 : x3_1.length ≤ co33 := (Kd.R_reads' HO_3.out).2.1; have hC39 : Kd.C Kd.string _ Ao33 x3_1.length x3_1 := (Kd.R_reads' HO_3.out).2.2; have q039 : (0 : Int) ≤ (x5_2 : Int) := of_decide_eq_true (by first | (with_reducible assumption) | assumption); have hcut39 := cut_from (P := Tryd.prog) 39 9 .i64 Tryd.underlying39 hi039 1 hsz39 Ao33 x3_1.length co33 x5_2 q039 q39; have hr39 := Kd.C_drop (m := (x5_2 : Int).toNat) (c := co33) hC39 (by omega) hroom39; obtain ⟨A39, hA39⟩ : ∃ A1, A1 = (if co33 = (x5_2 : Int).toNat then Ao33 else (Ao33 : Option Addr).map (·.add ((x5_2 : Int).toNat * 1))) := ⟨_, rfl⟩; obtain ⟨c39, hc39⟩ : ∃ c1, c1 = co33 - (x5_2 : Int).toNat := ⟨_, rfl⟩; have hy39 : y139.length = x3_1.length - (x5_2 : Int).toNat := (by rw [Ny139.out, List.length_drop] <;> omega); rw [show (x3_1).drop (x5_2 : Int).toNat = y139 from Ny139.out.symm] at hr39; replace hr39 : Kd.C Kd.string _ A39 y139.length y139 := (by rw [hA39]; exact hr39); rw [← hy39, ← hA39, ← hc39] at hcut39; have HR142 := Aside0.mk hr39; have HC142 := Aside0.mk (show y139.length ≤ c39 from by rw [hy39, hc39]; exact Nat.sub_le_sub_right hroom39 _); clear hr39 hC39 hroom39 hi039 hsz39 hc39; have KY39 := Aside0.mk hy39; have KA39 := Aside0.mk hA39; clear hy39 hA39; have KL39 := Aside0.mk (show (x5_2 : Int).toNat ≤ x3_1.length from by omega); replace q39 := eq_true q39) | ((with_reducible refine gate_builtin (b := .append) (xs := #[.tmp 42, .tmp 45]) rfl ?_); at_builtin; refine Kd.R_append_rows Kd.string (w0 := w) w.heap.size rfl (.tmp 42) (.tmp 45) 39 9 (.string ⟨#[]⟩) 16 rfl Tryd.underlying39 info9 rfl (by decide) (by omega) v137 y136 y139 _ _ _ (fun k_ => some k_ ≠ (.slice Ao33 x3_1.length co33 : Value).ownBlock) (fun _ => False) rfl rfl ?aO ?aR (fun _ _ h => h) (fun _ h => h.elim) ?aF ?aB ?aS ?aL ?_; (case aR => repeat (first | exact (by repeat (first | (with_reducible exact HR142.out) | (with_reducible refine Kd.C_alloc ?_ _) | (with_reducible refine Kd.C_drewN ?_ _) | (with_reducible refine Kd.C_drew ?_) | exact HR142.out)) | (with_reducible refine Kd.C_alloc ?_ _) | (with_reducible refine Kd.C_drewN ?_ _) | (with_reducible refine Kd.C_drew ?_))); (case aB => exact (by repeat (first | (with_reducible first | exact HB.out | apply below_alloc | apply pw_below_drewN | apply below_drew1) | exact HB.out))); (case aF => exact (fun k_ hk => Kd.fresh' (Kd.R_lt (by (with_reducible repeat (first | apply Kd.R_alloc | apply Kd.R_drewN | apply Kd.R_drew)); exact HO_3.out)) k_ hk)); (case aO => exact (by (with_reducible repeat (first | apply Kd.R_alloc | apply Kd.R_drewN | apply Kd.R_drew)); exact HO138.out)); (case aS => exact (below_size (by repeat (first | (with_reducible first | exact HB.out | apply below_alloc | apply pw_below_drewN | apply below_drew1) | exact HB.out)))); (case aL => have := LMc32.out; omega); intro v144 w40 ho hb hg hat; rw [← Ny143.out] at ho; have n0_ := Aside0.mk (Kd.R_after (ok := (fun _ => True)) (by (with_reducible repeat (first | apply Kd.R_alloc | apply Kd.R_drewN | apply Kd.R_drew)); exact HO_3.out) hg hat); have n1_ := Aside0.mk (hb); have n2_ := Aside0.mk ((show Kd.C Kd.string w40 Ao33 y128.length y128 from by rw [Ny128.out]; exact Kd.C_take (m := (x5_2 : Int).toNat) ((Kd.R_reads' (Kd.R_after (ok := (fun _ => True)) (by (with_reducible repeat (first | apply Kd.R_alloc | apply Kd.R_drewN | apply Kd.R_drew)); exact HO_3.out) hg hat)).2.2) KL36.out)); have n3_ := Aside0.mk ((show Kd.C Kd.string w40 A39 y139.length y139 from by rw [Ny139.out, KA39.out]; exact Kd.C_drop (m := (x5_2 : Int).toNat) (c := co33) ((Kd.R_reads' (Kd.R_after (ok := (fun _ => True)) (by (with_reducible repeat (first | apply Kd.R_alloc | apply Kd.R_drewN | apply Kd.R_drew)); exact HO_3.out) hg hat)).2.2) KL39.out ((Kd.R_reads' (Kd.R_after (ok := (fun _ => True)) (by (with_reducible repeat (first | apply Kd.R_alloc | apply Kd.R_drewN | apply Kd.R_drew)); exact HO_3.out) hg hat)).2.1))); have n4_ := Aside0.mk (ho); clear HO_3; clear HB; clear HR131; clear HR142; clear HO138; have HO_3 := n0_; have HB := n1_; have HR131 := n2_; have HR142 := n3_; have HO145 := n4_; clear n0_ n1_ n2_ n3_ n4_; clear ho hb hg hat))
                            repeat (go_quiet (first | ((with_reducible refine gate_dst (N := 30) rfl ?_); refine Kd.R_lit Kd.string _ 9 ?hg (N := 30) ?hd (xs := ([] : List ByteArray)) (inner := []) (ok := fun _ => True) (okp := fun _ => True) ?hr ?hp (fun _ hk => hk) trivial (Below.refl _ _) (Nat.le_refl _) (by simp) ?_; (case hd => rfl); (case hg => rfl); (case hr => first | (go_simp; done) | (go_simp; rfl)); (case hp => exact (Reps.none _ _)); intro v126 w34 ho35 hb hg_ hnew_; clear hg_ hnew_; (first | rw [← Ny125.out] at ho35 | (simp only [Int.reduceToNat] at ho35; rw [← Ny125.out] at ho35)); have n0_ := Aside0.mk (Kd.R_elder' (by (with_reducible repeat (first | apply Kd.R_alloc | apply Kd.R_drewN | apply Kd.R_drew)); exact HO_3.out) (Kd.R_base ho35) hb); have n1_ := Aside0.mk (Kd.R_lower (Kd.R_new' ho35 (Kd.R_lt (by (with_reducible repeat (first | apply Kd.R_alloc | apply Kd.R_drewN | apply Kd.R_drew)); exact HO_3.out))) (below_size (by repeat (first | (with_reducible first | exact HB.out | apply below_alloc | apply pw_below_drewN | apply below_drew1) | exact HB.out)))); have n2_ := Aside0.mk (below_step (by repeat (first | (with_reducible first | exact HB.out | apply below_alloc | apply pw_below_drewN | apply below_drew1) | exact HB.out)) hb); clear HO_3; clear HB; have HO_3 := n0_; have HO127 := n1_; have HB := n2_; clear n0_ n1_ n2_; clear hb ho35; have q36 : (x5_2 : Int) ≤ ((x3_1.length : Int) : Int) := of_decide_eq_true (by first | (with_reducible assumption) | assumption); obtain ⟨i036, hi036, _, hsz36, _⟩ := info_parts info9; have hroom36 : x3_1.length ≤ co33 := (Kd.R_reads' HO_3.out).2.1; have hC36 : Kd.C Kd.string _ Ao33 x3_1.length x3_1 := (Kd.R_reads' HO_3.out).2.2; have hcut36 := cut_to (P := Tryd.prog) 39 9 .i64 Tryd.underlying39 hi036 Ao33 x3_1.length co33 x5_2 (of_decide_eq_true (by first | (with_reducible assumption) | assumption)) q36 hroom36; have hr36 := Kd.C_take (m := (x5_2 : Int).toNat) hC36 (by omega); have hy36 : y128.length = (x5_2 : Int).toNat := (by rw [Ny128.out, List.length_take]; omega); rw [← Ny128.out] at hr36; rw [← hy36] at hcut36; have HR131 := Aside0.mk hr36; have HC131 := Aside0.mk (show y128.length ≤ co33 from by omega); clear hr36 hC36 hroom36 hi036 hsz36; have KY36 := Aside0.mk hy36; clear hy36; have KL36 := Aside0.mk (show (x5_2 : Int).toNat ≤ x3_1.length from by omega); replace q36 := eq_true q36) | ((with_reducible refine gate_builtin (b := .append) (xs := #[.tmp 30, .tmp 33]) rfl ?_); at_builtin; refine Kd.R_append_rows Kd.string (w0 := w) w.heap.size rfl (.tmp 30) (.tmp 33) 39 9 (.string ⟨#[]⟩) 16 rfl Tryd.underlying39 info9 rfl (by decide) (by omega) v126 y125 y128 _ _ _ (fun k_ => some k_ ≠ (.slice Ao33 x3_1.length co33 : Value).ownBlock) (fun _ => False) rfl rfl ?aO ?aR (fun _ _ h => h) (fun _ h => h.elim) ?aF ?aB ?aS ?aL ?_; (case aR => repeat (first | exact (by repeat (first | (with_reducible exact HR131.out) | (with_reducible refine Kd.C_alloc ?_ _) | (with_reducible refine Kd.C_drewN ?_ _) | (with_reducible refine Kd.C_drew ?_) | exact HR131.out)) | (with_reducible refine Kd.C_alloc ?_ _) | (with_reducible refine Kd.C_drewN ?_ _) | (with_reducible refine Kd.C_drew ?_))); (case aB => exact (by repeat (first | (with_reducible first | exact HB.out | apply below_alloc | apply pw_below_drewN | apply below_drew1) | exact HB.out))); (case aF => exact (fun k_ hk => Kd.fresh' (Kd.R_lt (by (with_reducible repeat (first | apply Kd.R_alloc | apply Kd.R_drewN | apply Kd.R_drew)); exact HO_3.out)) k_ hk)); (case aO => exact (by (with_reducible repeat (first | apply Kd.R_alloc | apply Kd.R_drewN | apply Kd.R_drew)); exact Kd.R_mono HO127.out (fun _ hk => hk.2))); (case aS => exact (below_size (by repeat (first | (with_reducible first | exact HB.out | apply below_alloc | apply pw_below_drewN | apply below_drew1) | exact HB.out)))); (case aL => have := LMc26.out; omega); intro v133 w37 ho hb hg hat; rw [← Ny132.out] at ho; have n0_ := Aside0.mk (Kd.R_after (ok := (fun _ => True)) (by (with_reducible repeat (first | apply Kd.R_alloc | apply Kd.R_drewN | apply Kd.R_drew)); exact HO_3.out) hg hat); have n1_ := Aside0.mk (hb); have n2_ := Aside0.mk ((show Kd.C Kd.string w37 Ao33 y128.length y128 from by rw [Ny128.out]; exact Kd.C_take (m := (x5_2 : Int).toNat) ((Kd.R_reads' (Kd.R_after (ok := (fun _ => True)) (by (with_reducible repeat (first | apply Kd.R_alloc | apply Kd.R_drewN | apply Kd.R_drew)); exact HO_3.out) hg hat)).2.2) KL36.out)); have n3_ := Aside0.mk (ho); clear HO_3; clear HB; clear HR131; clear HO127; have HO_3 := n0_; have HB := n1_; have HR131 := n2_; have HO134 := n3_; clear n0_ n1_ n2_ n3_; clear ho hb hg hat; have p135 : 0 ≤ (x4_1 : Int) := of_decide_eq_true (by first | (with_reducible assumption) | assumption); have q135 : x4_1 < (l0.length : Int) := of_decide_eq_true (by first | (with_reducible assumption) | assumption); obtain ⟨ad135, e135, hx135_0⟩ := Kd.at_string HR0.out x4_1 p135 q135; cases e135; replace hx135_0 := (HB.out.cell (World.block_lt_of_cell? w _ hx135_0)).trans hx135_0; replace p135 := eq_true p135; replace q135 := eq_true q135) | ((with_reducible refine gate_builtin (b := .append) (xs := #[.tmp 35, .tmp 40]) rfl ?_); at_builtin; refine Kd.R_append Kd.string (w0 := w) w.heap.size rfl (.tmp 35) (.tmp 40) 39 9 (.string ⟨#[]⟩) 16 rfl Tryd.underlying39 info9 rfl (by decide) (by omega) v133 y132 (rdOf ByteArray.empty l0 x4_1) [.string (rdOf ByteArray.empty l0 x4_1)] (fun k_ => some k_ ≠ (.slice Ao33 x3_1.length co33 : Value).ownBlock) (fun _ => False) rfl rfl ?aP (fun _ hk => hk.elim) ?aF ?aO ?aB ?aS ?aL ?_; (case aP => exact rfl); (case aB => exact (by repeat (first | (with_reducible first | exact HB.out | apply below_alloc | apply pw_below_drewN | apply below_drew1) | exact HB.out))); (case aF => exact (fun k_ hk => Kd.fresh' (Kd.R_lt (by (with_reducible repeat (first | apply Kd.R_alloc | apply Kd.R_drewN | apply Kd.R_drew)); exact HO_3.out)) k_ hk)); (case aO => exact (by (with_reducible repeat (first | apply Kd.R_alloc | apply Kd.R_drewN | apply Kd.R_drew)); exact HO134.out)); (case aS => exact (below_size (by repeat (first | (with_reducible first | exact HB.out | apply below_alloc | apply pw_below_drewN | apply below_drew1) | exact HB.out)))); (case aL => have := LMc29.out; omega); intro v137 w38 ho hb hg hat; rw [← Ny136.out] at ho; have n0_ := Aside0.mk (Kd.R_after (ok := (fun _ => True)) (by (with_reducible repeat (first | apply Kd.R_alloc | apply Kd.R_drewN | apply Kd.R_drew)); exact HO_3.out) hg hat); have n1_ := Aside0.mk (hb); have n2_ := Aside0.mk ((show Kd.C Kd.string w38 Ao33 y128.length y128 from by rw [Ny128.out]; exact Kd.C_take (m := (x5_2 : Int).toNat) ((Kd.R_reads' (Kd.R_after (ok := (fun _ => True)) (by (with_reducible repeat (first | apply Kd.R_alloc | apply Kd.R_drewN | apply Kd.R_drew)); exact HO_3.out) hg hat)).2.2) KL36.out)); have n3_ := Aside0.mk (ho); clear HO_3; clear HB; clear HR131; clear HO134; have HO_3 := n0_; have HB := n1_; have HR131 := n2_; have HO138 := n3_; clear n0_ n1_ n2_ n3_; clear ho hb hg hat; have q39 : (x5_2 : Int) ≤ ((x3_1.length : Int) : Int) := of_decide_eq_true (by first | (with_reducible assumption) | assumption); obtain ⟨i039, hi039, _, hsz39, _⟩ := info_parts info9; have hroom39 : x3_1.length ≤ co33 := (Kd.R_reads' HO_3.out).2.1; have hC39 : Kd.C Kd.string _ Ao33 x3_1.length x3_1 := (Kd.R_reads' HO_3.out).2.2; have q039 : (0 : Int) ≤ (x5_2 : Int) := of_decide_eq_true (by first | (with_reducible assumption) | assumption); have hcut39 := cut_from (P := Tryd.prog) 39 9 .i64 Tryd.underlying39 hi039 1 hsz39 Ao33 x3_1.length co33 x5_2 q039 q39; have hr39 := Kd.C_drop (m := (x5_2 : Int).toNat) (c := co33) hC39 (by omega) hroom39; obtain ⟨A39, hA39⟩ : ∃ A1, A1 = (if co33 = (x5_2 : Int).toNat then Ao33 else (Ao33 : Option Addr).map (·.add ((x5_2 : Int).toNat * 1))) := ⟨_, rfl⟩; obtain ⟨c39, hc39⟩ : ∃ c1, c1 = co33 - (x5_2 : Int).toNat := ⟨_, rfl⟩; have hy39 : y139.length = x3_1.length - (x5_2 : Int).toNat := (by rw [Ny139.out, List.length_drop] <;> omega); rw [show (x3_1).drop (x5_2 : Int).toNat = y139 from Ny139.out.symm] at hr39; replace hr39 : Kd.C Kd.string _ A39 y139.length y139 := (by rw [hA39]; exact hr39); rw [← hy39, ← hA39, ← hc39] at hcut39; have HR142 := Aside0.mk hr39; have HC142 := Aside0.mk (show y139.length ≤ c39 from by rw [hy39, hc39]; exact Nat.sub_le_sub_right hroom39 _); clear hr39 hC39 hroom39 hi039 hsz39 hc39; have KY39 := Aside0.mk hy39; have KA39 := Aside0.mk hA39; clear hy39 hA39; have KL39 := Aside0.mk (show (x5_2 : Int).toNat ≤ x3_1.length from by omega); replace q39 := eq_true q39) | ((with_reducible refine gate_builtin (b := .append) (xs := #[.tmp 42, .tmp 45]) rfl ?_); at_builtin; refine Kd.R_append_rows Kd.string (w0 := w) w.heap.size rfl (.tmp 42) (.tmp 45) 39 9 (.string ⟨#[]⟩) 16 rfl Tryd.underlying39 info9 rfl (by decide) (by omega) v137 y136 y139 _ _ _ (fun k_ => some k_ ≠ (.slice Ao33 x3_1.length co33 : Value).ownBlock) (fun _ => False) rfl rfl ?aO ?aR (fun _ _ h => h) (fun _ h => h.elim) ?aF ?aB ?aS ?aL ?_; (case aR => repeat (first | exact (by repeat (first | (with_reducible exact HR142.out) | (with_reducible refine Kd.C_alloc ?_ _) | (with_reducible refine Kd.C_drewN ?_ _) | (with_reducible refine Kd.C_drew ?_) | exact HR142.out)) | (with_reducible refine Kd.C_alloc ?_ _) | (with_reducible refine Kd.C_drewN ?_ _) | (with_reducible refine Kd.C_drew ?_))); (case aB => exact (by repeat (first | (with_reducible first | exact HB.out | apply below_alloc | apply pw_below_drewN | apply below_drew1) | exact HB.out))); (case aF => exact (fun k_ hk => Kd.fresh' (Kd.R_lt (by (with_reducible repeat (first | apply Kd.R_alloc | apply Kd.R_drewN | apply Kd.R_drew)); exact HO_3.out)) k_ hk)); (case aO => exact (by (with_reducible repeat (first | apply Kd.R_alloc | apply Kd.R_drewN | apply Kd.R_drew)); exact HO138.out)); (case aS => exact (below_size (by repeat (first | (with_reducible first | exact HB.out | apply below_alloc | apply pw_below_drewN | apply below_drew1) | exact HB.out)))); (case aL => have := LMc32.out; omega); intro v144 w40 ho hb hg hat; rw [← Ny143.out] at ho; have n0_ := Aside0.mk (Kd.R_after (ok := (fun _ => True)) (by (with_reducible repeat (first | apply Kd.R_alloc | apply Kd.R_drewN | apply Kd.R_drew)); exact HO_3.out) hg hat); have n1_ := Aside0.mk (hb); have n2_ := Aside0.mk ((show Kd.C Kd.string w40 Ao33 y128.length y128 from by rw [Ny128.out]; exact Kd.C_take (m := (x5_2 : Int).toNat) ((Kd.R_reads' (Kd.R_after (ok := (fun _ => True)) (by (with_reducible repeat (first | apply Kd.R_alloc | apply Kd.R_drewN | apply Kd.R_drew)); exact HO_3.out) hg hat)).2.2) KL36.out)); have n3_ := Aside0.mk ((show Kd.C Kd.string w40 A39 y139.length y139 from by rw [Ny139.out, KA39.out]; exact Kd.C_drop (m := (x5_2 : Int).toNat) (c := co33) ((Kd.R_reads' (Kd.R_after (ok := (fun _ => True)) (by (with_reducible repeat (first | apply Kd.R_alloc | apply Kd.R_drewN | apply Kd.R_drew)); exact HO_3.out) hg hat)).2.2) KL39.out ((Kd.R_reads' (Kd.R_after (ok := (fun _ => True)) (by (with_reducible repeat (first | apply Kd.R_alloc | apply Kd.R_drewN | apply Kd.R_drew)); exact HO_3.out) hg hat)).2.1))); have n4_ := Aside0.mk (ho); clear HO_3; clear HB; clear HR131; clear HR142; clear HO138; have HO_3 := n0_; have HB := n1_; have HR131 := n2_; have HR142 := n3_; have HO145 := n4_; clear n0_ n1_ n2_ n3_ n4_; clear ho hb hg hat)); try go_wp2_with (first | ((with_reducible refine gate_dst (N := 30) rfl ?_); refine Kd.R_lit Kd.string _ 9 ?hg (N := 30) ?hd (xs := ([] : List ByteArray)) (inner := []) (ok := fun _ => True) (okp := fun _ => True) ?hr ?hp (fun _ hk => hk) trivial (Below.refl _ _) (Nat.le_refl _) (by simp) ?_; (case hd => rfl); (case hg => rfl); (case hr => first | (go_simp; done) | (go_simp; rfl)); (case hp => exact (Reps.none _ _)); intro v126 w34 ho35 hb hg_ hnew_; clear hg_ hnew_; (first | rw [← Ny125.out] at ho35 | (simp only [Int.reduceToNat] at ho35; rw [← Ny125.out] at ho35)); have n0_ := Aside0.mk (Kd.R_elder' (by (with_reducible repeat (first | apply Kd.R_alloc | apply Kd.R_drewN | apply Kd.R_drew)); exact HO_3.out) (Kd.R_base ho35) hb); have n1_ := Aside0.mk (Kd.R_lower (Kd.R_new' ho35 (Kd.R_lt (by (with_reducible repeat (first | apply Kd.R_alloc | apply Kd.R_drewN | apply Kd.R_drew)); exact HO_3.out))) (below_size (by repeat (first | (with_reducible first | exact HB.out | apply below_alloc | apply pw_below_drewN | apply below_drew1) | exact HB.out)))); have n2_ := Aside0.mk (below_step (by repeat (first | (with_reducible first | exact HB.out | apply below_alloc | apply pw_below_drewN | apply below_drew1) | exact HB.out)) hb); clear HO_3; clear HB; have HO_3 := n0_; have HO127 := n1_; have HB := n2_; clear n0_ n1_ n2_; clear hb ho35; have q36 : (x5_2 : Int) ≤ ((x3_1.length : Int) : Int) := of_decide_eq_true (by first | (with_reducible assumption) | assumption); obtain ⟨i036, hi036, _, hsz36, _⟩ := info_parts info9; have hroom36 : x3_1.length ≤ co33 := (Kd.R_reads' HO_3.out).2.1; have hC36 : Kd.C Kd.string _ Ao33 x3_1.length x3_1 := (Kd.R_reads' HO_3.out).2.2; have hcut36 := cut_to (P := Tryd.prog) 39 9 .i64 Tryd.underlying39 hi036 Ao33 x3_1.length co33 x5_2 (of_decide_eq_true (by first | (with_reducible assumption) | assumption)) q36 hroom36; have hr36 := Kd.C_take (m := (x5_2 : Int).toNat) hC36 (by omega); have hy36 : y128.length = (x5_2 : Int).toNat := (by rw [Ny128.out, List.length_take]; omega); rw [← Ny128.out] at hr36; rw [← hy36] at hcut36; have HR131 := Aside0.mk hr36; have HC131 := Aside0.mk (show y128.length ≤ co33 from by omega); clear hr36 hC36 hroom36 hi036 hsz36; have KY36 := Aside0.mk hy36; clear hy36; have KL36 := Aside0.mk (show (x5_2 : Int).toNat ≤ x3_1.length from by omega); replace q36 := eq_true q36) | ((with_reducible refine gate_builtin (b := .append) (xs := #[.tmp 30, .tmp 33]) rfl ?_); at_builtin; refine Kd.R_append_rows Kd.string (w0 := w) w.heap.size rfl (.tmp 30) (.tmp 33) 39 9 (.string ⟨#[]⟩) 16 rfl Tryd.underlying39 info9 rfl (by decide) (by omega) v126 y125 y128 _ _ _ (fun k_ => some k_ ≠ (.slice Ao33 x3_1.length co33 : Value).ownBlock) (fun _ => False) rfl rfl ?aO ?aR (fun _ _ h => h) (fun _ h => h.elim) ?aF ?aB ?aS ?aL ?_; (case aR => repeat (first | exact (by repeat (first | (with_reducible exact HR131.out) | (with_reducible refine Kd.C_alloc ?_ _) | (with_reducible refine Kd.C_drewN ?_ _) | (with_reducible refine Kd.C_drew ?_) | exact HR131.out)) | (with_reducible refine Kd.C_alloc ?_ _) | (with_reducible refine Kd.C_drewN ?_ _) | (with_reducible refine Kd.C_drew ?_))); (case aB => exact (by repeat (first | (with_reducible first | exact HB.out | apply below_alloc | apply pw_below_drewN | apply below_drew1) | exact HB.out))); (case aF => exact (fun k_ hk => Kd.fresh' (Kd.R_lt (by (with_reducible repeat (first | apply Kd.R_alloc | apply Kd.R_drewN | apply Kd.R_drew)); exact HO_3.out)) k_ hk)); (case aO => exact (by (with_reducible repeat (first | apply Kd.R_alloc | apply Kd.R_drewN | apply Kd.R_drew)); exact Kd.R_mono HO127.out (fun _ hk => hk.2))); (case aS => exact (below_size (by repeat (first | (with_reducible first | exact HB.out | apply below_alloc | apply pw_below_drewN | apply below_drew1) | exact HB.out)))); (case aL => have := LMc26.out; omega); intro v133 w37 ho hb hg hat; rw [← Ny132.out] at ho; have n0_ := Aside0.mk (Kd.R_after (ok := (fun _ => True)) (by (with_reducible repeat (first | apply Kd.R_alloc | apply Kd.R_drewN | apply Kd.R_drew)); exact HO_3.out) hg hat); have n1_ := Aside0.mk (hb); have n2_ := Aside0.mk ((show Kd.C Kd.string w37 Ao33 y128.length y128 from by rw [Ny128.out]; exact Kd.C_take (m := (x5_2 : Int).toNat) ((Kd.R_reads' (Kd.R_after (ok := (fun _ => True)) (by (with_reducible repeat (first | apply Kd.R_alloc | apply Kd.R_drewN | apply Kd.R_drew)); exact HO_3.out) hg hat)).2.2) KL36.out)); have n3_ := Aside0.mk (ho); clear HO_3; clear HB; clear HR131; clear HO127; have HO_3 := n0_; have HB := n1_; have HR131 := n2_; have HO134 := n3_; clear n0_ n1_ n2_ n3_; clear ho hb hg hat; have p135 : 0 ≤ (x4_1 : Int) := of_decide_eq_true (by first | (with_reducible assumption) | assumption); have q135 : x4_1 < (l0.length : Int) := of_decide_eq_true (by first | (with_reducible assumption) | assumption); obtain ⟨ad135, e135, hx135_0⟩ := Kd.at_string HR0.out x4_1 p135 q135; cases e135; replace hx135_0 := (HB.out.cell (World.block_lt_of_cell? w _ hx135_0)).trans hx135_0; replace p135 := eq_true p135; replace q135 := eq_true q135) | ((with_reducible refine gate_builtin (b := .append) (xs := #[.tmp 35, .tmp 40]) rfl ?_); at_builtin; refine Kd.R_append Kd.string (w0 := w) w.heap.size rfl (.tmp 35) (.tmp 40) 39 9 (.string ⟨#[]⟩) 16 rfl Tryd.underlying39 info9 rfl (by decide) (by omega) v133 y132 (rdOf ByteArray.empty l0 x4_1) [.string (rdOf ByteArray.empty l0 x4_1)] (fun k_ => some k_ ≠ (.slice Ao33 x3_1.length co33 : Value).ownBlock) (fun _ => False) rfl rfl ?aP (fun _ hk => hk.elim) ?aF ?aO ?aB ?aS ?aL ?_; (case aP => exact rfl); (case aB => exact (by repeat (first | (with_reducible first | exact HB.out | apply below_alloc | apply pw_below_drewN | apply below_drew1) | exact HB.out))); (case aF => exact (fun k_ hk => Kd.fresh' (Kd.R_lt (by (with_reducible repeat (first | apply Kd.R_alloc | apply Kd.R_drewN | apply Kd.R_drew)); exact HO_3.out)) k_ hk)); (case aO => exact (by (with_reducible repeat (first | apply Kd.R_alloc | apply Kd.R_drewN | apply Kd.R_drew)); exact HO134.out)); (case aS => exact (below_size (by repeat (first | (with_reducible first | exact HB.out | apply below_alloc | apply pw_below_drewN | apply below_drew1) | exact HB.out)))); (case aL => have := LMc29.out; omega); intro v137 w38 ho hb hg hat; rw [← Ny136.out] at ho; have n0_ := Aside0.mk (Kd.R_after (ok := (fun _ => True)) (by (with_reducible repeat (first | apply Kd.R_alloc | apply Kd.R_drewN | apply Kd.R_drew)); exact HO_3.out) hg hat); have n1_ := Aside0.mk (hb); have n2_ := Aside0.mk ((show Kd.C Kd.string w38 Ao33 y128.length y128 from by rw [Ny128.out]; exact Kd.C_take (m := (x5_2 : Int).toNat) ((Kd.R_reads' (Kd.R_after (ok := (fun _ => True)) (by (with_reducible repeat (first | apply Kd.R_alloc | apply Kd.R_drewN | apply Kd.R_drew)); exact HO_3.out) hg hat)).2.2) KL36.out)); have n3_ := Aside0.mk (ho); clear HO_3; clear HB; clear HR131; clear HO134; have HO_3 := n0_; have HB := n1_; have HR131 := n2_; have HO138 := n3_; clear n0_ n1_ n2_ n3_; clear ho hb hg hat; have q39 : (x5_2 : Int) ≤ ((x3_1.length : Int) : Int) := of_decide_eq_true (by first | (with_reducible assumption) | assumption); obtain ⟨i039, hi039, _, hsz39, _⟩ := info_parts info9; have hroom39 : x3_1.length ≤ co33 := (Kd.R_reads' HO_3.out).2.1; have hC39 : Kd.C Kd.string _ Ao33 x3_1.length x3_1 := (Kd.R_reads' HO_3.out).2.2; have q039 : (0 : Int) ≤ (x5_2 : Int) := of_decide_eq_true (by first | (with_reducible assumption) | assumption); have hcut39 := cut_from (P := Tryd.prog) 39 9 .i64 Tryd.underlying39 hi039 1 hsz39 Ao33 x3_1.length co33 x5_2 q039 q39; have hr39 := Kd.C_drop (m := (x5_2 : Int).toNat) (c := co33) hC39 (by omega) hroom39; obtain ⟨A39, hA39⟩ : ∃ A1, A1 = (if co33 = (x5_2 : Int).toNat then Ao33 else (Ao33 : Option Addr).map (·.add ((x5_2 : Int).toNat * 1))) := ⟨_, rfl⟩; obtain ⟨c39, hc39⟩ : ∃ c1, c1 = co33 - (x5_2 : Int).toNat := ⟨_, rfl⟩; have hy39 : y139.length = x3_1.length - (x5_2 : Int).toNat := (by rw [Ny139.out, List.length_drop] <;> omega); rw [show (x3_1).drop (x5_2 : Int).toNat = y139 from Ny139.out.symm] at hr39; replace hr39 : Kd.C Kd.string _ A39 y139.length y139 := (by rw [hA39]; exact hr39); rw [← hy39, ← hA39, ← hc39] at hcut39; have HR142 := Aside0.mk hr39; have HC142 := Aside0.mk (show y139.length ≤ c39 from by rw [hy39, hc39]; exact Nat.sub_le_sub_right hroom39 _); clear hr39 hC39 hroom39 hi039 hsz39 hc39; have KY39 := Aside0.mk hy39; have KA39 := Aside0.mk hA39; clear hy39 hA39; have KL39 := Aside0.mk (show (x5_2 : Int).toNat ≤ x3_1.length from by omega); replace q39 := eq_true q39) | ((with_reducible refine gate_builtin (b := .append) (xs := #[.tmp 42, .tmp 45]) rfl ?_); at_builtin; refine Kd.R_append_rows Kd.string (w0 := w) w.heap.size rfl (.tmp 42) (.tmp 45) 39 9 (.string ⟨#[]⟩) 16 rfl Tryd.underlying39 info9 rfl (by decide) (by omega) v137 y136 y139 _ _ _ (fun k_ => some k_ ≠ (.slice Ao33 x3_1.length co33 : Value).ownBlock) (fun _ => False) rfl rfl ?aO ?aR (fun _ _ h => h) (fun _ h => h.elim) ?aF ?aB ?aS ?aL ?_; (case aR => repeat (first | exact (by repeat (first | (with_reducible exact HR142.out) | (with_reducible refine Kd.C_alloc ?_ _) | (with_reducible refine Kd.C_drewN ?_ _) | (with_reducible refine Kd.C_drew ?_) | exact HR142.out)) | (with_reducible refine Kd.C_alloc ?_ _) | (with_reducible refine Kd.C_drewN ?_ _) | (with_reducible refine Kd.C_drew ?_))); (case aB => exact (by repeat (first | (with_reducible first | exact HB.out | apply below_alloc | apply pw_below_drewN | apply below_drew1) | exact HB.out))); (case aF => exact (fun k_ hk => Kd.fresh' (Kd.R_lt (by (with_reducible repeat (first | apply Kd.R_alloc | apply Kd.R_drewN | apply Kd.R_drew)); exact HO_3.out)) k_ hk)); (case aO => exact (by (with_reducible repeat (first | apply Kd.R_alloc | apply Kd.R_drewN | apply Kd.R_drew)); exact HO138.out)); (case aS => exact (below_size (by repeat (first | (with_reducible first | exact HB.out | apply below_alloc | apply pw_below_drewN | apply below_drew1) | exact HB.out)))); (case aL => have := LMc32.out; omega); intro v144 w40 ho hb hg hat; rw [← Ny143.out] at ho; have n0_ := Aside0.mk (Kd.R_after (ok := (fun _ => True)) (by (with_reducible repeat (first | apply Kd.R_alloc | apply Kd.R_drewN | apply Kd.R_drew)); exact HO_3.out) hg hat); have n1_ := Aside0.mk (hb); have n2_ := Aside0.mk ((show Kd.C Kd.string w40 Ao33 y128.length y128 from by rw [Ny128.out]; exact Kd.C_take (m := (x5_2 : Int).toNat) ((Kd.R_reads' (Kd.R_after (ok := (fun _ => True)) (by (with_reducible repeat (first | apply Kd.R_alloc | apply Kd.R_drewN | apply Kd.R_drew)); exact HO_3.out) hg hat)).2.2) KL36.out)); have n3_ := Aside0.mk ((show Kd.C Kd.string w40 A39 y139.length y139 from by rw [Ny139.out, KA39.out]; exact Kd.C_drop (m := (x5_2 : Int).toNat) (c := co33) ((Kd.R_reads' (Kd.R_after (ok := (fun _ => True)) (by (with_reducible repeat (first | apply Kd.R_alloc | apply Kd.R_drewN | apply Kd.R_drew)); exact HO_3.out) hg hat)).2.2) KL39.out ((Kd.R_reads' (Kd.R_after (ok := (fun _ => True)) (by (with_reducible repeat (first | apply Kd.R_alloc | apply Kd.R_drewN | apply Kd.R_drew)); exact HO_3.out) hg hat)).2.1))); have n4_ := Aside0.mk (ho); clear HO_3; clear HB; clear HR131; clear HR142; clear HO138; have HO_3 := n0_; have HB := n1_; have HR131 := n2_; have HR142 := n3_; have HO145 := n4_; clear n0_ n1_ n2_ n3_ n4_; clear ho hb hg hat)))
                            go_roundg k2
                            case measure => have := HK1.out; have := HK2.out; omega
                            case rel => exact ⟨(y143), (wrap64 (x4_1 + 1)), (by first | rfl | (simp; done) | (simp [*]; done)), H', ⟨by have := HK1.out; have := HK2.out; omega⟩, ⟨by (with_reducible repeat (first | apply Kd.R_alloc | apply Kd.R_drewN | apply Kd.R_drew)); exact Kd.R_mono HO145.out (fun _ hk => trivial)⟩, ⟨by repeat (first | (with_reducible first | exact HB.out | apply below_alloc | apply pw_below_drewN | apply below_drew1) | exact HB.out)⟩⟩
                          · rw [if_neg c32] at H
                            exact absurd H (by simp)
                        · rw [if_neg c29] at H
                          exact absurd H (by simp)
                      · rw [if_neg c28] at H
                        exact absurd H (by simp)
                    · rw [if_neg c27] at H
                      exact absurd H (by simp)
                  · rw [if_neg c26] at H
                    exact absurd H (by simp)
                · rw [if_neg c25] at H
                  exact absurd H (by simp)
              · rw [if_neg c24] at H
                exact absurd H (by simp)
      · rw [if_neg c2] at H
        have c2b0 : decide (x4_1 < (l0.length : Int)) = false := decide_eq_false c2
        clear c2
        obtain rfl := Option.some.inj H
        go_wp2
        repeat (go_quiet (fail); try go_wp2)
        go_ret
        exact ⟨_, by first | rfl | (simp [errW_none, errW_some] <;> rfl) | (simp [*, errW_none, errW_some] <;> rfl), by (with_reducible repeat (first | apply Kd.R_alloc | apply Kd.R_drewN | apply Kd.R_drew)); exact HO_3.out, by repeat (first | (with_reducible first | exact HB.out | apply below_alloc | apply pw_below_drewN | apply below_drew1) | exact HB.out)⟩

end Go.Proofs.YtmehecpmhijfmaaDoor.PFnFieldParse
