/- Functions of the program as plain Lean functions, and that the machine's calls do what these say: written for this claim by wip/myprint.py over the kit's print.py. -/
import Derived.Test.YtlhbmifffmegeaaPFnLabelLexx0
import Derived.Test.YtlhbmifffmegeaaPFnLabelLexx2
namespace Go.Proofs.Ytlhbmifffmegeaa.PFnLabelLex
open Go.RowKit Go.Proofs.YtlhbmifffmegeaaW.PrintWords Go.Proofs.YtlhbmifffmegeaaW.PrintLast Go.Proofs.YtlhbmifffmegeaaW.PrintMore
attribute [local go_sem] max2_int min2_int max_two min_two max_three min_three max_four min_four   -- for this text's walks alone
set_option linter.unusedVariables false
set_option linter.unusedSimpArgs false

/-! ### labels_Lexer_scanIDOrKeyword: function 16 -/
def labels_Lexer_scanIDOrKeyword.l0 : Nat → List Int → ByteArray → Int → Option (Int × ByteArray × ByteArray × Int)
  | 0, _, _, _ => none
  | k + 1, x4, x1000, x1001 => (labels_Lexer_read.f x1000 x1001).bind fun bt120 => (if bt120.1 = 0 then ((labels_string2token.f (strOfNums x4)).bind fun bt123 => (if bt123.2 = true then (some (bt123.1, strOfNums x4, bt120.2.1, bt120.2.2)) else (some (8, strOfNums x4, bt120.2.1, bt120.2.2)))) else ((labels_isSpecialSymbol.f bt120.1).bind fun t125 => (if t125 = true then ((labels_Lexer_unread.f bt120.2.1 bt120.2.2).bind fun bt126 => ((labels_string2token.f (strOfNums x4)).bind fun bt128 => (if bt128.2 = true then (some (bt128.1, strOfNums x4, bt126.1, bt126.2)) else (some (8, strOfNums x4, bt126.1, bt126.2))))) else ((labels_isWhitespace.f bt120.1).bind fun t130 => (if t130 = true then ((labels_Lexer_unread.f bt120.2.1 bt120.2.2).bind fun bt131 => ((labels_string2token.f (strOfNums x4)).bind fun bt133 => (if bt133.2 = true then (some (bt133.1, strOfNums x4, bt131.1, bt131.2)) else (some (8, strOfNums x4, bt131.1, bt131.2))))) else (if x4.length < 140737488355328 then (labels_Lexer_scanIDOrKeyword.l0 k (x4 ++ [bt120.1]) bt120.2.1 bt120.2.2) else (none)))))))
def labels_Lexer_scanIDOrKeyword.f (k : Nat) (s0_0 : ByteArray) (s0_1 : Int) : Option (Int × ByteArray × ByteArray × Int) := labels_Lexer_scanIDOrKeyword.l0 k ([] : List Int) s0_0 s0_1
theorem labels_Lexer_scanIDOrKeyword.mono_l : ∀ k, (∀ y0 y1 y2, LeO (labels_Lexer_scanIDOrKeyword.l0 k y0 y1 y2) (labels_Lexer_scanIDOrKeyword.l0 (k + 1) y0 y1 y2))
  | 0 => fun _ _ _ r h => by simp [labels_Lexer_scanIDOrKeyword.l0] at h
  | k + 1 => by
    have ih0 := labels_Lexer_scanIDOrKeyword.mono_l k
    · intro y0 y1 y2
      unfold labels_Lexer_scanIDOrKeyword.l0
      repeat' first
      | (with_reducible exact ih0 _ _ _)
      | (with_reducible exact LeO.refl _)
      | (with_reducible exact LeO.none _)
      | (with_reducible refine LeO.ite ?_ ?_)
      | (with_reducible refine LeO.bind ?_ (fun _ => ?_))
      | exact ih0 _ _ _
      | exact LeO.none _
      | refine LeO.ite ?_ ?_
      | refine LeO.bind ?_ (fun _ => ?_)
theorem labels_Lexer_scanIDOrKeyword.mono : ∀ a0 a1 k, LeO (labels_Lexer_scanIDOrKeyword.f k a0 a1) (labels_Lexer_scanIDOrKeyword.f (k + 1) a0 a1) := by
  intro a0 a1 k
  have ih0 := labels_Lexer_scanIDOrKeyword.mono_l k
  unfold labels_Lexer_scanIDOrKeyword.f
  repeat' first
      | (with_reducible exact ih0 _ _ _)
      | (with_reducible exact LeO.refl _)
      | (with_reducible exact LeO.none _)
      | (with_reducible refine LeO.ite ?_ ?_)
      | (with_reducible refine LeO.bind ?_ (fun _ => ?_))
      | exact ih0 _ _ _
      | exact LeO.none _
      | refine LeO.ite ?_ ?_
      | refine LeO.bind ?_ (fun _ => ?_)
set_option maxHeartbeats 8000000 in
set_option maxRecDepth 100000 in
theorem labels_Lexer_scanIDOrKeyword.calls (k : Nat) (g : Nat) (s0_0 : ByteArray) (s0_1 : Int) (r1 : Int) (r2 : ByteArray) (r3 : ByteArray) (r4 : Int) (w0 w : World) (hI : IsS35 w0 w g s0_0 s0_1) (hB : Below w0.heap.size w0 w) (h : labels_Lexer_scanIDOrKeyword.f k s0_0 s0_1 = some (r1, r2, r3, r4)) :
    Calls Try.prog 16 #[.pointer (some ⟨g, 0, none⟩)] w fun e w' => e = .returned (.tuple #[.int .i64 r1, .string r2]) ∧ IsS35 w0 w' g r3 r4 ∧ Below w0.heap.size w0 w' ∧ KeepBut w w' g none := by
  have HI0 := Aside0.mk hI
  have HK := Aside0.mk (KeepBut.refl w g none)
  have HL := Aside0.mk hB.size
  clear hI
  have HW0 := Aside0.mk hB.size
  have HB := Aside0.mk hB
  clear hB
  have H : (labels_Lexer_scanIDOrKeyword.l0 k ([] : List Int) s0_0 s0_1) = some (r1, r2, r3, r4) := h
  clear h
  have H' := Aside0.mk H
  clear H
  go_enter Try.func16, Try.ntmps16
  go_wp2
  go_step3
  go_wp2
  go_step3
  go_wp2
  go_loopg [4] k (fun kq v4 w' => ∃ (x4_1 : List Int) (x1000_1 : ByteArray) (x1001_1 : Int), Aside0 (labels_Lexer_scanIDOrKeyword.l0 kq x4_1 x1000_1 x1001_1 = some (r1, r2, r3, r4)) ∧ Aside0 (kq ≤ k) ∧ Aside0 (Kd.R (Kd.int .u8) 5 w' w.heap.size (fun _ => True) v4 x4_1) ∧ Aside0 (IsS35 w0 w' g x1000_1 x1001_1) ∧ Aside0 (KeepBut w w' g none) ∧ Aside0 (Below w0.heap.size w0 w'))
  case atStart => exact ⟨(([] : List Int)), (s0_0), (s0_1), H', ⟨Nat.le_refl _⟩, ⟨by first | exact Kd.R_nil _ _ _ _ _ | exact Kd.N_nil _ _ _ _ _ | exact Kd.V_nil _ _ _ _ _ | exact Kd.Q_nil _ _ _ _ _ | exact Kd.S_nil _ _ _ _ _⟩, ⟨by repeat (first | (with_reducible first | exact HI0.out | apply IsS35.alloc | apply IsS35.drewN | apply IsS35.drew | apply IsS35.set_0 | apply IsS35.set_1) | exact HI0.out)⟩, ⟨by repeat (first | (with_reducible first | exact HK.out | apply KeepBut.set_ | apply keep_drewN | apply keep_drew | apply keep_alloc) | exact HK.out)⟩, ⟨by repeat (first | (with_reducible first | exact HB.out | apply below_alloc | apply pw_below_drewN | apply below_drew1 | refine below_set ?_ (IsS35.ge HI0.out)) | exact HB.out)⟩⟩
  case round =>
    clear H'
    try clear c1
    obtain ⟨x4_1, x1000_1, x1001_1, HA, HK1, HO_4, HI0, HK, HB⟩ := hrel
    cases gk with
    | zero => exact absurd HA.out (by simp [labels_Lexer_scanIDOrKeyword.l0])
    | succ k1 =>
      have H := HA.out
      clear HA
      simp only [labels_Lexer_scanIDOrKeyword.l0] at H
      replace H := Option.bind_eq_some_iff.mp H
      obtain ⟨⟨t120, t121, t122⟩, A20, H⟩ := H
      replace H : (if t120 = 0 then ((labels_string2token.f (strOfNums x4_1)).bind fun bt123 => (if bt123.2 = true then (some (bt123.1, strOfNums x4_1, t121, t122)) else (some (8, strOfNums x4_1, t121, t122)))) else ((labels_isSpecialSymbol.f t120).bind fun t125 => (if t125 = true then ((labels_Lexer_unread.f t121 t122).bind fun bt126 => ((labels_string2token.f (strOfNums x4_1)).bind fun bt128 => (if bt128.2 = true then (some (bt128.1, strOfNums x4_1, bt126.1, bt126.2)) else (some (8, strOfNums x4_1, bt126.1, bt126.2))))) else ((labels_isWhitespace.f t120).bind fun t130 => (if t130 = true then ((labels_Lexer_unread.f t121 t122).bind fun bt131 => ((labels_string2token.f (strOfNums x4_1)).bind fun bt133 => (if bt133.2 = true then (some (bt133.1, strOfNums x4_1, bt131.1, bt131.2)) else (some (8, strOfNums x4_1, bt131.1, bt131.2))))) else (if x4_1.length < 140737488355328 then (labels_Lexer_scanIDOrKeyword.l0 k1 (x4_1 ++ [t120]) t121 t122) else (none))))))) = some (r1, r2, r3, r4) := H
      have A2 := Aside0.mk A20
      clear A20
      by_cases c3 : t120 = 0
      · rw [if_pos c3] at H
        have c3b0 : (t120 == 0) = true := beq_iff_eq.mpr c3
        have c3b1 : (t120 != 0) = false := bne_eq_false_iff_eq.mpr c3
        clear c3
        replace H := Option.bind_eq_some_iff.mp H
        obtain ⟨⟨t123, t124⟩, A40, H⟩ := H
        replace H : (if t124 = true then (some (t123, strOfNums x4_1, t121, t122)) else (some (8, strOfNums x4_1, t121, t122))) = some (r1, r2, r3, r4) := H
        have A4 := Aside0.mk A40
        clear A40
        by_cases c5 : t124 = true
        · subst c5
          have H1 : (some (t123, strOfNums x4_1, t121, t122)) = some (r1, r2, r3, r4) := by rw [if_pos rfl] at H; exact H
          clear H
          have H := H1
          clear H1
          simp only [Option.some.injEq, Prod.mk.injEq] at H
          obtain ⟨rfl, rfl, rfl, rfl⟩ := H
          go_wp2_with (first | ((with_reducible refine gate_callee (f := 12) rfl ?_); refine goesL_ (some 10) rfl rfl Try.func12 (by kernel_rfl) rfl #[.pointer (some ⟨g, 0, none⟩)] rfl (by (try simp only [List.map_toArray, List.map_cons, List.map_nil]); first | done | rfl | (simp only [List.length_drop, List.length_take]; rfl)) ?_; (with_reducible refine (labels_Lexer_read.calls g x1000_1 x1001_1 t120 t121 t122 w0 _ ?side1 ?side2 A2.out).mono ?_); (case side1 => repeat (first | (with_reducible first | exact HI0.out | apply IsS35.alloc | apply IsS35.drewN | apply IsS35.drew | apply IsS35.set_0 | apply IsS35.set_1) | exact HI0.out)); (case side2 => repeat (first | (with_reducible first | exact HB.out | apply below_alloc | apply pw_below_drewN | apply below_drew1 | refine below_set ?_ (IsS35.ge HI0.out)) | exact HB.out)); rintro e w6 ⟨rfl, hi, hb, hk⟩; refine ⟨_, rfl, ?_⟩; have n0_ := Aside0.mk (Kd.R_mono (Kd.R_keep (IsS35.apart (show IsS35 w0 _ g x1000_1 x1001_1 from by repeat (first | (with_reducible first | exact HI0.out | apply IsS35.alloc | apply IsS35.drewN | apply IsS35.drew | apply IsS35.set_0 | apply IsS35.set_1) | exact HI0.out)) (by (with_reducible repeat (first | apply Kd.R_alloc | apply Kd.R_drewN | apply Kd.R_drew)); exact HO_4.out) (by decide)) hk (fun _ h => h.2)) (fun _ h => h.1)); have n1_ := Aside0.mk (KeepBut.trans (by repeat (first | (with_reducible first | exact HK.out | apply KeepBut.set_ | apply keep_drewN | apply keep_drew | apply keep_alloc) | exact HK.out)) hk (.inl rfl)); have n2_ := Aside0.mk (hb); have n3_ := Aside0.mk (hi); clear HO_4; clear HK; clear HB; clear HI0; have HO_4 := n0_; have HK := n1_; have HB := n2_; have HI0 := n3_; clear n0_ n1_ n2_ n3_; (try clear hb); (try clear hb2); (try clear hk); (try clear hi); have hcv7 := own_string (P := Try.prog) Try.underlying40 Try.underlying5 Try.underlying9 (Kd.own_of_R HO_4.out); have hcv7d := (fun nd_ => own_string (P := Try.prog) Try.underlying40 Try.underlying5 Try.underlying9 (Kd.own_of_R (Kd.R_drewN HO_4.out nd_)))) | ((with_reducible refine gate_callee (f := 19) rfl ?_); refine goesL_ (some 31) rfl rfl Try.func19 (by kernel_rfl) rfl #[.string (strOfNums x4_1)] rfl (by (try simp only [List.map_toArray, List.map_cons, List.map_nil]); first | done | rfl | (simp only [List.length_drop, List.length_take]; rfl)) ?_; (with_reducible refine (labels_string2token.calls (strOfNums x4_1) t123 true _ A4.out).mono ?_); rintro e w' ⟨rfl, ⟨nd, rfl⟩⟩; refine ⟨_, rfl, ?_⟩))
          (try rw [Exit.noGoto_ret]); go_ret2
          exact ⟨by first | rfl | (simp [errW_none, errW_some] <;> rfl) | (simp [*, errW_none, errW_some] <;> rfl) | (exfalso; contradiction), by repeat (first | (with_reducible first | exact HI0.out | apply IsS35.alloc | apply IsS35.drewN | apply IsS35.drew | apply IsS35.set_0 | apply IsS35.set_1) | exact HI0.out), by repeat (first | (with_reducible first | exact HB.out | apply below_alloc | apply pw_below_drewN | apply below_drew1 | refine below_set ?_ (IsS35.ge HI0.out)) | exact HB.out), by repeat (first | (with_reducible first | exact HK.out | apply KeepBut.set_ | apply keep_drewN | apply keep_drew | apply keep_alloc) | exact HK.out)⟩
        · replace c5 := Bool.eq_false_iff.mpr c5
          subst c5
          have H1 : (some (8, strOfNums x4_1, t121, t122)) = some (r1, r2, r3, r4) := by rw [if_neg (show ¬ (false = true) by decide)] at H; exact H
          clear H
          have H := H1
          clear H1
          simp only [Option.some.injEq, Prod.mk.injEq] at H
          obtain ⟨rfl, rfl, rfl, rfl⟩ := H
          go_wp2_with (first | ((with_reducible refine gate_callee (f := 12) rfl ?_); refine goesL_ (some 10) rfl rfl Try.func12 (by kernel_rfl) rfl #[.pointer (some ⟨g, 0, none⟩)] rfl (by (try simp only [List.map_toArray, List.map_cons, List.map_nil]); first | done | rfl | (simp only [List.length_drop, List.length_take]; rfl)) ?_; (with_reducible refine (labels_Lexer_read.calls g x1000_1 x1001_1 t120 t121 t122 w0 _ ?side1 ?side2 A2.out).mono ?_); (case side1 => repeat (first | (with_reducible first | exact HI0.out | apply IsS35.alloc | apply IsS35.drewN | apply IsS35.drew | apply IsS35.set_0 | apply IsS35.set_1) | exact HI0.out)); (case side2 => repeat (first | (with_reducible first | exact HB.out | apply below_alloc | apply pw_below_drewN | apply below_drew1 | refine below_set ?_ (IsS35.ge HI0.out)) | exact HB.out)); rintro e w8 ⟨rfl, hi, hb, hk⟩; refine ⟨_, rfl, ?_⟩; have n0_ := Aside0.mk (Kd.R_mono (Kd.R_keep (IsS35.apart (show IsS35 w0 _ g x1000_1 x1001_1 from by repeat (first | (with_reducible first | exact HI0.out | apply IsS35.alloc | apply IsS35.drewN | apply IsS35.drew | apply IsS35.set_0 | apply IsS35.set_1) | exact HI0.out)) (by (with_reducible repeat (first | apply Kd.R_alloc | apply Kd.R_drewN | apply Kd.R_drew)); exact HO_4.out) (by decide)) hk (fun _ h => h.2)) (fun _ h => h.1)); have n1_ := Aside0.mk (KeepBut.trans (by repeat (first | (with_reducible first | exact HK.out | apply KeepBut.set_ | apply keep_drewN | apply keep_drew | apply keep_alloc) | exact HK.out)) hk (.inl rfl)); have n2_ := Aside0.mk (hb); have n3_ := Aside0.mk (hi); clear HO_4; clear HK; clear HB; clear HI0; have HO_4 := n0_; have HK := n1_; have HB := n2_; have HI0 := n3_; clear n0_ n1_ n2_ n3_; (try clear hb); (try clear hb2); (try clear hk); (try clear hi); have hcv9 := own_string (P := Try.prog) Try.underlying40 Try.underlying5 Try.underlying9 (Kd.own_of_R HO_4.out); have hcv9d := (fun nd_ => own_string (P := Try.prog) Try.underlying40 Try.underlying5 Try.underlying9 (Kd.own_of_R (Kd.R_drewN HO_4.out nd_)))) | ((with_reducible refine gate_callee (f := 19) rfl ?_); refine goesL_ (some 31) rfl rfl Try.func19 (by kernel_rfl) rfl #[.string (strOfNums x4_1)] rfl (by (try simp only [List.map_toArray, List.map_cons, List.map_nil]); first | done | rfl | (simp only [List.length_drop, List.length_take]; rfl)) ?_; (with_reducible refine (labels_string2token.calls (strOfNums x4_1) t123 false _ A4.out).mono ?_); rintro e w' ⟨rfl, ⟨nd, rfl⟩⟩; refine ⟨_, rfl, ?_⟩))
          (try rw [Exit.noGoto_ret]); go_ret2
          exact ⟨by first | rfl | (simp [errW_none, errW_some] <;> rfl) | (simp [*, errW_none, errW_some] <;> rfl) | (exfalso; contradiction), by repeat (first | (with_reducible first | exact HI0.out | apply IsS35.alloc | apply IsS35.drewN | apply IsS35.drew | apply IsS35.set_0 | apply IsS35.set_1) | exact HI0.out), by repeat (first | (with_reducible first | exact HB.out | apply below_alloc | apply pw_below_drewN | apply below_drew1 | refine below_set ?_ (IsS35.ge HI0.out)) | exact HB.out), by repeat (first | (with_reducible first | exact HK.out | apply KeepBut.set_ | apply keep_drewN | apply keep_drew | apply keep_alloc) | exact HK.out)⟩
      · rw [if_neg c3] at H
        have c3b0 : (t120 == 0) = false := beq_eq_false_iff_ne.mpr c3
        have c3b1 : (t120 != 0) = true := bne_iff_ne.mpr c3
        replace H := Option.bind_eq_some_iff.mp H
        obtain ⟨t125, A100, H⟩ := H
        replace H : (if t125 = true then ((labels_Lexer_unread.f t121 t122).bind fun bt126 => ((labels_string2token.f (strOfNums x4_1)).bind fun bt128 => (if bt128.2 = true then (some (bt128.1, strOfNums x4_1, bt126.1, bt126.2)) else (some (8, strOfNums x4_1, bt126.1, bt126.2))))) else ((labels_isWhitespace.f t120).bind fun t130 => (if t130 = true then ((labels_Lexer_unread.f t121 t122).bind fun bt131 => ((labels_string2token.f (strOfNums x4_1)).bind fun bt133 => (if bt133.2 = true then (some (bt133.1, strOfNums x4_1, bt131.1, bt131.2)) else (some (8, strOfNums x4_1, bt131.1, bt131.2))))) else (if x4_1.length < 140737488355328 then (labels_Lexer_scanIDOrKeyword.l0 k1 (x4_1 ++ [t120]) t121 t122) else (none))))) = some (r1, r2, r3, r4) := H
        have A10 := Aside0.mk A100
        clear A100
        by_cases c11 : t125 = true
        · subst c11
          have H1 : ((labels_Lexer_unread.f t121 t122).bind fun bt126 => ((labels_string2token.f (strOfNums x4_1)).bind fun bt128 => (if bt128.2 = true then (some (bt128.1, strOfNums x4_1, bt126.1, bt126.2)) else (some (8, strOfNums x4_1, bt126.1, bt126.2))))) = some (r1, r2, r3, r4) := by rw [if_pos rfl] at H; exact H
          clear H
          have H := H1
          clear H1
          replace H := Option.bind_eq_some_iff.mp H
          obtain ⟨⟨t126, t127⟩, A120, H⟩ := H
          replace H : ((labels_string2token.f (strOfNums x4_1)).bind fun bt128 => (if bt128.2 = true then (some (bt128.1, strOfNums x4_1, t126, t127)) else (some (8, strOfNums x4_1, t126, t127)))) = some (r1, r2, r3, r4) := H
          have A12 := Aside0.mk A120
          clear A120
          replace H := Option.bind_eq_some_iff.mp H
          obtain ⟨⟨t128, t129⟩, A130, H⟩ := H
          replace H : (if t129 = true then (some (t128, strOfNums x4_1, t126, t127)) else (some (8, strOfNums x4_1, t126, t127))) = some (r1, r2, r3, r4) := H
          have A13 := Aside0.mk A130
          clear A130
          by_cases c14 : t129 = true
          · subst c14
            have H1 : (some (t128, strOfNums x4_1, t126, t127)) = some (r1, r2, r3, r4) := by rw [if_pos rfl] at H; exact H
            clear H
            have H := H1
            clear H1
            simp only [Option.some.injEq, Prod.mk.injEq] at H
            obtain ⟨rfl, rfl, rfl, rfl⟩ := H
            go_wp2_with (first | ((with_reducible refine gate_callee (f := 12) rfl ?_); refine goesL_ (some 10) rfl rfl Try.func12 (by kernel_rfl) rfl #[.pointer (some ⟨g, 0, none⟩)] rfl (by (try simp only [List.map_toArray, List.map_cons, List.map_nil]); first | done | rfl | (simp only [List.length_drop, List.length_take]; rfl)) ?_; (with_reducible refine (labels_Lexer_read.calls g x1000_1 x1001_1 t120 t121 t122 w0 _ ?side1 ?side2 A2.out).mono ?_); (case side1 => repeat (first | (with_reducible first | exact HI0.out | apply IsS35.alloc | apply IsS35.drewN | apply IsS35.drew | apply IsS35.set_0 | apply IsS35.set_1) | exact HI0.out)); (case side2 => repeat (first | (with_reducible first | exact HB.out | apply below_alloc | apply pw_below_drewN | apply below_drew1 | refine below_set ?_ (IsS35.ge HI0.out)) | exact HB.out)); rintro e w15 ⟨rfl, hi, hb, hk⟩; refine ⟨_, rfl, ?_⟩; have n0_ := Aside0.mk (Kd.R_mono (Kd.R_keep (IsS35.apart (show IsS35 w0 _ g x1000_1 x1001_1 from by repeat (first | (with_reducible first | exact HI0.out | apply IsS35.alloc | apply IsS35.drewN | apply IsS35.drew | apply IsS35.set_0 | apply IsS35.set_1) | exact HI0.out)) (by (with_reducible repeat (first | apply Kd.R_alloc | apply Kd.R_drewN | apply Kd.R_drew)); exact HO_4.out) (by decide)) hk (fun _ h => h.2)) (fun _ h => h.1)); have n1_ := Aside0.mk (KeepBut.trans (by repeat (first | (with_reducible first | exact HK.out | apply KeepBut.set_ | apply keep_drewN | apply keep_drew | apply keep_alloc) | exact HK.out)) hk (.inl rfl)); have n2_ := Aside0.mk (hb); have n3_ := Aside0.mk (hi); clear HO_4; clear HK; clear HB; clear HI0; have HO_4 := n0_; have HK := n1_; have HB := n2_; have HI0 := n3_; clear n0_ n1_ n2_ n3_; (try clear hb); (try clear hb2); (try clear hk); (try clear hi)) | ((with_reducible refine gate_callee (f := 13) rfl ?_); refine goesL_ (some 20) rfl rfl Try.func13 (by kernel_rfl) rfl #[.int .u8 t120] rfl (by (try simp only [List.map_toArray, List.map_cons, List.map_nil]); first | done | rfl | (simp only [List.length_drop, List.length_take]; rfl)) ?_; (with_reducible refine (labels_isSpecialSymbol.calls t120 true _ A10.out).mono ?_); rintro e w' ⟨rfl, ⟨nd, rfl⟩⟩; refine ⟨_, rfl, ?_⟩) | ((with_reducible refine gate_callee (f := 14) rfl ?_); refine goesL_ (some 26) rfl rfl Try.func14 (by kernel_rfl) rfl #[.pointer (some ⟨g, 0, none⟩)] rfl (by (try simp only [List.map_toArray, List.map_cons, List.map_nil]); first | done | rfl | (simp only [List.length_drop, List.length_take]; rfl)) ?_; (with_reducible refine (labels_Lexer_unread.calls g t121 t122 t126 t127 w0 _ ?side1 ?side2 A12.out).mono ?_); (case side1 => repeat (first | (with_reducible first | exact HI0.out | apply IsS35.alloc | apply IsS35.drewN | apply IsS35.drew | apply IsS35.set_0 | apply IsS35.set_1) | exact HI0.out)); (case side2 => repeat (first | (with_reducible first | exact HB.out | apply below_alloc | apply pw_below_drewN | apply below_drew1 | refine below_set ?_ (IsS35.ge HI0.out)) | exact HB.out)); rintro e w16 ⟨rfl, hi, hb, hk⟩; refine ⟨_, rfl, ?_⟩; have n0_ := Aside0.mk (Kd.R_mono (Kd.R_keep (IsS35.apart (show IsS35 w0 _ g t121 t122 from by repeat (first | (with_reducible first | exact HI0.out | apply IsS35.alloc | apply IsS35.drewN | apply IsS35.drew | apply IsS35.set_0 | apply IsS35.set_1) | exact HI0.out)) (by (with_reducible repeat (first | apply Kd.R_alloc | apply Kd.R_drewN | apply Kd.R_drew)); exact HO_4.out) (by decide)) hk (fun _ h => h.2)) (fun _ h => h.1)); have n1_ := Aside0.mk (KeepBut.trans (by repeat (first | (with_reducible first | exact HK.out | apply KeepBut.set_ | apply keep_drewN | apply keep_drew | apply keep_alloc) | exact HK.out)) hk (.inl rfl)); have n2_ := Aside0.mk (hb); have n3_ := Aside0.mk (hi); clear HO_4; clear HK; clear HB; clear HI0; have HO_4 := n0_; have HK := n1_; have HB := n2_; have HI0 := n3_; clear n0_ n1_ n2_ n3_; (try clear hb); (try clear hb2); (try clear hk); (try clear hi); have hcv17 := own_string (P := Try.prog) Try.underlying40 Try.underlying5 Try.underlying9 (Kd.own_of_R HO_4.out); have hcv17d := (fun nd_ => own_string (P := Try.prog) Try.underlying40 Try.underlying5 Try.underlying9 (Kd.own_of_R (Kd.R_drewN HO_4.out nd_)))) | ((with_reducible refine gate_callee (f := 19) rfl ?_); refine goesL_ (some 31) rfl rfl Try.func19 (by kernel_rfl) rfl #[.string (strOfNums x4_1)] rfl (by (try simp only [List.map_toArray, List.map_cons, List.map_nil]); first | done | rfl | (simp only [List.length_drop, List.length_take]; rfl)) ?_; (with_reducible refine (labels_string2token.calls (strOfNums x4_1) t128 true _ A13.out).mono ?_); rintro e w' ⟨rfl, ⟨nd, rfl⟩⟩; refine ⟨_, rfl, ?_⟩))
            (try rw [Exit.noGoto_ret]); go_ret2
            exact ⟨by first | rfl | (simp [errW_none, errW_some] <;> rfl) | (simp [*, errW_none, errW_some] <;> rfl) | (exfalso; contradiction), by repeat (first | (with_reducible first | exact HI0.out | apply IsS35.alloc | apply IsS35.drewN | apply IsS35.drew | apply IsS35.set_0 | apply IsS35.set_1) | exact HI0.out), by repeat (first | (with_reducible first | exact HB.out | apply below_alloc | apply pw_below_drewN | apply below_drew1 | refine below_set ?_ (IsS35.ge HI0.out)) | exact HB.out), by repeat (first | (with_reducible first | exact HK.out | apply KeepBut.set_ | apply keep_drewN | apply keep_drew | apply keep_alloc) | exact HK.out)⟩
          · replace c14 := Bool.eq_false_iff.mpr c14
            subst c14
            have H1 : (some (8, strOfNums x4_1, t126, t127)) = some (r1, r2, r3, r4) := by rw [if_neg (show ¬ (false = true) by decide)] at H; exact H
            clear H
            have H := H1
            clear H1
            simp only [Option.some.injEq, Prod.mk.injEq] at H
            obtain ⟨rfl, rfl, rfl, rfl⟩ := H
            go_wp2_with (first | ((with_reducible refine gate_callee (f := 12) rfl ?_); refine goesL_ (some 10) rfl rfl Try.func12 (by kernel_rfl) rfl #[.pointer (some ⟨g, 0, none⟩)] rfl (by (try simp only [List.map_toArray, List.map_cons, List.map_nil]); first | done | rfl | (simp only [List.length_drop, List.length_take]; rfl)) ?_; (with_reducible refine (labels_Lexer_read.calls g x1000_1 x1001_1 t120 t121 t122 w0 _ ?side1 ?side2 A2.out).mono ?_); (case side1 => repeat (first | (with_reducible first | exact HI0.out | apply IsS35.alloc | apply IsS35.drewN | apply IsS35.drew | apply IsS35.set_0 | apply IsS35.set_1) | exact HI0.out)); (case side2 => repeat (first | (with_reducible first | exact HB.out | apply below_alloc | apply pw_below_drewN | apply below_drew1 | refine below_set ?_ (IsS35.ge HI0.out)) | exact HB.out)); rintro e w18 ⟨rfl, hi, hb, hk⟩; refine ⟨_, rfl, ?_⟩; have n0_ := Aside0.mk (Kd.R_mono (Kd.R_keep (IsS35.apart (show IsS35 w0 _ g x1000_1 x1001_1 from by repeat (first | (with_reducible first | exact HI0.out | apply IsS35.alloc | apply IsS35.drewN | apply IsS35.drew | apply IsS35.set_0 | apply IsS35.set_1) | exact HI0.out)) (by (with_reducible repeat (first | apply Kd.R_alloc | apply Kd.R_drewN | apply Kd.R_drew)); exact HO_4.out) (by decide)) hk (fun _ h => h.2)) (fun _ h => h.1)); have n1_ := Aside0.mk (KeepBut.trans (by repeat (first | (with_reducible first | exact HK.out | apply KeepBut.set_ | apply keep_drewN | apply keep_drew | apply keep_alloc) | exact HK.out)) hk (.inl rfl)); have n2_ := Aside0.mk (hb); have n3_ := Aside0.mk (hi); clear HO_4; clear HK; clear HB; clear HI0; have HO_4 := n0_; have HK := n1_; have HB := n2_; have HI0 := n3_; clear n0_ n1_ n2_ n3_; (try clear hb); (try clear hb2); (try clear hk); (try clear hi)) | ((with_reducible refine gate_callee (f := 13) rfl ?_); refine goesL_ (some 20) rfl rfl Try.func13 (by kernel_rfl) rfl #[.int .u8 t120] rfl (by (try simp only [List.map_toArray, List.map_cons, List.map_nil]); first | done | rfl | (simp only [List.length_drop, List.length_take]; rfl)) ?_; (with_reducible refine (labels_isSpecialSymbol.calls t120 true _ A10.out).mono ?_); rintro e w' ⟨rfl, ⟨nd, rfl⟩⟩; refine ⟨_, rfl, ?_⟩) | ((with_reducible refine gate_callee (f := 14) rfl ?_); refine goesL_ (some 26) rfl rfl Try.func14 (by kernel_rfl) rfl #[.pointer (some ⟨g, 0, none⟩)] rfl (by (try simp only [List.map_toArray, List.map_cons, List.map_nil]); first | done | rfl | (simp only [List.length_drop, List.length_take]; rfl)) ?_; (with_reducible refine (labels_Lexer_unread.calls g t121 t122 t126 t127 w0 _ ?side1 ?side2 A12.out).mono ?_); (case side1 => repeat (first | (with_reducible first | exact HI0.out | apply IsS35.alloc | apply IsS35.drewN | apply IsS35.drew | apply IsS35.set_0 | apply IsS35.set_1) | exact HI0.out)); (case side2 => repeat (first | (with_reducible first | exact HB.out | apply below_alloc | apply pw_below_drewN | apply below_drew1 | refine below_set ?_ (IsS35.ge HI0.out)) | exact HB.out)); rintro e w19 ⟨rfl, hi, hb, hk⟩; refine ⟨_, rfl, ?_⟩; have n0_ := Aside0.mk (Kd.R_mono (Kd.R_keep (IsS35.apart (show IsS35 w0 _ g t121 t122 from by repeat (first | (with_reducible first | exact HI0.out | apply IsS35.alloc | apply IsS35.drewN | apply IsS35.drew | apply IsS35.set_0 | apply IsS35.set_1) | exact HI0.out)) (by (with_reducible repeat (first | apply Kd.R_alloc | apply Kd.R_drewN | apply Kd.R_drew)); exact HO_4.out) (by decide)) hk (fun _ h => h.2)) (fun _ h => h.1)); have n1_ := Aside0.mk (KeepBut.trans (by repeat (first | (with_reducible first | exact HK.out | apply KeepBut.set_ | apply keep_drewN | apply keep_drew | apply keep_alloc) | exact HK.out)) hk (.inl rfl)); have n2_ := Aside0.mk (hb); have n3_ := Aside0.mk (hi); clear HO_4; clear HK; clear HB; clear HI0; have HO_4 := n0_; have HK := n1_; have HB := n2_; have HI0 := n3_; clear n0_ n1_ n2_ n3_; (try clear hb); (try clear hb2); (try clear hk); (try clear hi); have hcv20 := own_string (P := Try.prog) Try.underlying40 Try.underlying5 Try.underlying9 (Kd.own_of_R HO_4.out); have hcv20d := (fun nd_ => own_string (P := Try.prog) Try.underlying40 Try.underlying5 Try.underlying9 (Kd.own_of_R (Kd.R_drewN HO_4.out nd_)))) | ((with_reducible refine gate_callee (f := 19) rfl ?_); refine goesL_ (some 31) rfl rfl Try.func19 (by kernel_rfl) rfl #[.string (strOfNums x4_1)] rfl (by (try simp only [List.map_toArray, List.map_cons, List.map_nil]); first | done | rfl | (simp only [List.length_drop, List.length_take]; rfl)) ?_; (with_reducible refine (labels_string2token.calls (strOfNums x4_1) t128 false _ A13.out).mono ?_); rintro e w' ⟨rfl, ⟨nd, rfl⟩⟩; refine ⟨_, rfl, ?_⟩))
            (try rw [Exit.noGoto_ret]); go_ret2
            exact ⟨by first | rfl | (simp [errW_none, errW_some] <;> rfl) | (simp [*, errW_none, errW_some] <;> rfl) | (exfalso; contradiction), by repeat (first | (with_reducible first | exact HI0.out | apply IsS35.alloc | apply IsS35.drewN | apply IsS35.drew | apply IsS35.set_0 | apply IsS35.set_1) | exact HI0.out), by repeat (first | (with_reducible first | exact HB.out | apply below_alloc | apply pw_below_drewN | apply below_drew1 | refine below_set ?_ (IsS35.ge HI0.out)) | exact HB.out), by repeat (first | (with_reducible first | exact HK.out | apply KeepBut.set_ | apply keep_drewN | apply keep_drew | apply keep_alloc) | exact HK.out)⟩
        · replace c11 := Bool.eq_false_iff.mpr c11
          subst c11
          have H1 : ((labels_isWhitespace.f t120).bind fun t130 => (if t130 = true then ((labels_Lexer_unread.f t121 t122).bind fun bt131 => ((labels_string2token.f (strOfNums x4_1)).bind fun bt133 => (if bt133.2 = true then (some (bt133.1, strOfNums x4_1, bt131.1, bt131.2)) else (some (8, strOfNums x4_1, bt131.1, bt131.2))))) else (if x4_1.length < 140737488355328 then (labels_Lexer_scanIDOrKeyword.l0 k1 (x4_1 ++ [t120]) t121 t122) else (none)))) = some (r1, r2, r3, r4) := by rw [if_neg (show ¬ (false = true) by decide)] at H; exact H
          clear H
          have H := H1
          clear H1
          replace H := Option.bind_eq_some_iff.mp H
          obtain ⟨t130, A210, H⟩ := H
          replace H : (if t130 = true then ((labels_Lexer_unread.f t121 t122).bind fun bt131 => ((labels_string2token.f (strOfNums x4_1)).bind fun bt133 => (if bt133.2 = true then (some (bt133.1, strOfNums x4_1, bt131.1, bt131.2)) else (some (8, strOfNums x4_1, bt131.1, bt131.2))))) else (if x4_1.length < 140737488355328 then (labels_Lexer_scanIDOrKeyword.l0 k1 (x4_1 ++ [t120]) t121 t122) else (none))) = some (r1, r2, r3, r4) := H
          have A21 := Aside0.mk A210
          clear A210
          by_cases c22 : t130 = true
          · subst c22
            have H1 : ((labels_Lexer_unread.f t121 t122).bind fun bt131 => ((labels_string2token.f (strOfNums x4_1)).bind fun bt133 => (if bt133.2 = true then (some (bt133.1, strOfNums x4_1, bt131.1, bt131.2)) else (some (8, strOfNums x4_1, bt131.1, bt131.2))))) = some (r1, r2, r3, r4) := by rw [if_pos rfl] at H; exact H
            clear H
            have H := H1
            clear H1
            replace H := Option.bind_eq_some_iff.mp H
            obtain ⟨⟨t131, t132⟩, A230, H⟩ := H
            replace H : ((labels_string2token.f (strOfNums x4_1)).bind fun bt133 => (if bt133.2 = true then (some (bt133.1, strOfNums x4_1, t131, t132)) else (some (8, strOfNums x4_1, t131, t132)))) = some (r1, r2, r3, r4) := H
            have A23 := Aside0.mk A230
            clear A230
            replace H := Option.bind_eq_some_iff.mp H
            obtain ⟨⟨t133, t134⟩, A240, H⟩ := H
            replace H : (if t134 = true then (some (t133, strOfNums x4_1, t131, t132)) else (some (8, strOfNums x4_1, t131, t132))) = some (r1, r2, r3, r4) := H
            have A24 := Aside0.mk A240
            clear A240
            by_cases c25 : t134 = true
            · subst c25
              have H1 : (some (t133, strOfNums x4_1, t131, t132)) = some (r1, r2, r3, r4) := by rw [if_pos rfl] at H; exact H
              clear H
              have H := H1
              clear H1
              simp only [Option.some.injEq, Prod.mk.injEq] at H
              obtain ⟨rfl, rfl, rfl, rfl⟩ := H
              go_wp2_with (first | ((with_reducible refine gate_callee (f := 12) rfl ?_); refine goesL_ (some 10) rfl rfl Try.func12 (by kernel_rfl) rfl #[.pointer (some ⟨g, 0, none⟩)] rfl (by (try simp only [List.map_toArray, List.map_cons, List.map_nil]); first | done | rfl | (simp only [List.length_drop, List.length_take]; rfl)) ?_; (with_reducible refine (labels_Lexer_read.calls g x1000_1 x1001_1 t120 t121 t122 w0 _ ?side1 ?side2 A2.out).mono ?_); (case side1 => repeat (first | (with_reducible first | exact HI0.out | apply IsS35.alloc | apply IsS35.drewN | apply IsS35.drew | apply IsS35.set_0 | apply IsS35.set_1) | exact HI0.out)); (case side2 => repeat (first | (with_reducible first | exact HB.out | apply below_alloc | apply pw_below_drewN | apply below_drew1 | refine below_set ?_ (IsS35.ge HI0.out)) | exact HB.out)); rintro e w26 ⟨rfl, hi, hb, hk⟩; refine ⟨_, rfl, ?_⟩; have n0_ := Aside0.mk (Kd.R_mono (Kd.R_keep (IsS35.apart (show IsS35 w0 _ g x1000_1 x1001_1 from by repeat (first | (with_reducible first | exact HI0.out | apply IsS35.alloc | apply IsS35.drewN | apply IsS35.drew | apply IsS35.set_0 | apply IsS35.set_1) | exact HI0.out)) (by (with_reducible repeat (first | apply Kd.R_alloc | apply Kd.R_drewN | apply Kd.R_drew)); exact HO_4.out) (by decide)) hk (fun _ h => h.2)) (fun _ h => h.1)); have n1_ := Aside0.mk (KeepBut.trans (by repeat (first | (with_reducible first | exact HK.out | apply KeepBut.set_ | apply keep_drewN | apply keep_drew | apply keep_alloc) | exact HK.out)) hk (.inl rfl)); have n2_ := Aside0.mk (hb); have n3_ := Aside0.mk (hi); clear HO_4; clear HK; clear HB; clear HI0; have HO_4 := n0_; have HK := n1_; have HB := n2_; have HI0 := n3_; clear n0_ n1_ n2_ n3_; (try clear hb); (try clear hb2); (try clear hk); (try clear hi)) | ((with_reducible refine gate_callee (f := 13) rfl ?_); refine goesL_ (some 20) rfl rfl Try.func13 (by kernel_rfl) rfl #[.int .u8 t120] rfl (by (try simp only [List.map_toArray, List.map_cons, List.map_nil]); first | done | rfl | (simp only [List.length_drop, List.length_take]; rfl)) ?_; (with_reducible refine (labels_isSpecialSymbol.calls t120 false _ A10.out).mono ?_); rintro e w' ⟨rfl, ⟨nd, rfl⟩⟩; refine ⟨_, rfl, ?_⟩) | (go_at_call 18; (with_reducible refine (labels_isWhitespace.calls t120 true _ A21.out).mono ?_); rintro e w' ⟨rfl, ⟨nd, rfl⟩⟩) | ((with_reducible refine gate_callee (f := 14) rfl ?_); refine goesL_ (some 26) rfl rfl Try.func14 (by kernel_rfl) rfl #[.pointer (some ⟨g, 0, none⟩)] rfl (by (try simp only [List.map_toArray, List.map_cons, List.map_nil]); first | done | rfl | (simp only [List.length_drop, List.length_take]; rfl)) ?_; (with_reducible refine (labels_Lexer_unread.calls g t121 t122 t131 t132 w0 _ ?side1 ?side2 A23.out).mono ?_); (case side1 => repeat (first | (with_reducible first | exact HI0.out | apply IsS35.alloc | apply IsS35.drewN | apply IsS35.drew | apply IsS35.set_0 | apply IsS35.set_1) | exact HI0.out)); (case side2 => repeat (first | (with_reducible first | exact HB.out | apply below_alloc | apply pw_below_drewN | apply below_drew1 | refine below_set ?_ (IsS35.ge HI0.out)) | exact HB.out)); rintro e w27 ⟨rfl, hi, hb, hk⟩; refine ⟨_, rfl, ?_⟩; have n0_ := Aside0.mk (Kd.R_mono (Kd.R_keep (IsS35.apart (show IsS35 w0 _ g t121 t122 from by repeat (first | (with_reducible first | exact HI0.out | apply IsS35.alloc | apply IsS35.drewN | apply IsS35.drew | apply IsS35.set_0 | apply IsS35.set_1) | exact HI0.out)) (by (with_reducible repeat (first | apply Kd.R_alloc | apply Kd.R_drewN | apply Kd.R_drew)); exact HO_4.out) (by decide)) hk (fun _ h => h.2)) (fun _ h => h.1)); have n1_ := Aside0.mk (KeepBut.trans (by repeat (first | (with_reducible first | exact HK.out | apply KeepBut.set_ | apply keep_drewN | apply keep_drew | apply keep_alloc) | exact HK.out)) hk (.inl rfl)); have n2_ := Aside0.mk (hb); have n3_ := Aside0.mk (hi); clear HO_4; clear HK; clear HB; clear HI0; have HO_4 := n0_; have HK := n1_; have HB := n2_; have HI0 := n3_; clear n0_ n1_ n2_ n3_; (try clear hb); (try clear hb2); (try clear hk); (try clear hi); have hcv28 := own_string (P := Try.prog) Try.underlying40 Try.underlying5 Try.underlying9 (Kd.own_of_R HO_4.out); have hcv28d := (fun nd_ => own_string (P := Try.prog) Try.underlying40 Try.underlying5 Try.underlying9 (Kd.own_of_R (Kd.R_drewN HO_4.out nd_)))) | ((with_reducible refine gate_callee (f := 19) rfl ?_); refine goesL_ (some 31) rfl rfl Try.func19 (by kernel_rfl) rfl #[.string (strOfNums x4_1)] rfl (by (try simp only [List.map_toArray, List.map_cons, List.map_nil]); first | done | rfl | (simp only [List.length_drop, List.length_take]; rfl)) ?_; (with_reducible refine (labels_string2token.calls (strOfNums x4_1) t133 true _ A24.out).mono ?_); rintro e w' ⟨rfl, ⟨nd, rfl⟩⟩; refine ⟨_, rfl, ?_⟩))
              (try rw [Exit.noGoto_ret]); go_ret2
              exact ⟨by first | rfl | (simp [errW_none, errW_some] <;> rfl) | (simp [*, errW_none, errW_some] <;> rfl) | (exfalso; contradiction), by repeat (first | (with_reducible first | exact HI0.out | apply IsS35.alloc | apply IsS35.drewN | apply IsS35.drew | apply IsS35.set_0 | apply IsS35.set_1) | exact HI0.out), by repeat (first | (with_reducible first | exact HB.out | apply below_alloc | apply pw_below_drewN | apply below_drew1 | refine below_set ?_ (IsS35.ge HI0.out)) | exact HB.out), by repeat (first | (with_reducible first | exact HK.out | apply KeepBut.set_ | apply keep_drewN | apply keep_drew | apply keep_alloc) | exact HK.out)⟩
            · replace c25 := Bool.eq_false_iff.mpr c25
              subst c25
              have H1 : (some (8, strOfNums x4_1, t131, t132)) = some (r1, r2, r3, r4) := by rw [if_neg (show ¬ (false = true) by decide)] at H; exact H
              clear H
              have H := H1
              clear H1
              simp only [Option.some.injEq, Prod.mk.injEq] at H
              obtain ⟨rfl, rfl, rfl, rfl⟩ := H
              go_wp2_with (first | ((with_reducible refine gate_callee (f := 12) rfl ?_); refine goesL_ (some 10) rfl rfl Try.func12 (by kernel_rfl) rfl #[.pointer (some ⟨g, 0, none⟩)] rfl (by (try simp only [List.map_toArray, List.map_cons, List.map_nil]); first | done | rfl | (simp only [List.length_drop, List.length_take]; rfl)) ?_; (with_reducible refine (labels_Lexer_read.calls g x1000_1 x1001_1 t120 t121 t122 w0 _ ?side1 ?side2 A2.out).mono ?_); (case side1 => repeat (first | (with_reducible first | exact HI0.out | apply IsS35.alloc | apply IsS35.drewN | apply IsS35.drew | apply IsS35.set_0 | apply IsS35.set_1) | exact HI0.out)); (case side2 => repeat (first | (with_reducible first | exact HB.out | apply below_alloc | apply pw_below_drewN | apply below_drew1 | refine below_set ?_ (IsS35.ge HI0.out)) | exact HB.out)); rintro e w29 ⟨rfl, hi, hb, hk⟩; refine ⟨_, rfl, ?_⟩; have n0_ := Aside0.mk (Kd.R_mono (Kd.R_keep (IsS35.apart (show IsS35 w0 _ g x1000_1 x1001_1 from by repeat (first | (with_reducible first | exact HI0.out | apply IsS35.alloc | apply IsS35.drewN | apply IsS35.drew | apply IsS35.set_0 | apply IsS35.set_1) | exact HI0.out)) (by (with_reducible repeat (first | apply Kd.R_alloc | apply Kd.R_drewN | apply Kd.R_drew)); exact HO_4.out) (by decide)) hk (fun _ h => h.2)) (fun _ h => h.1)); have n1_ := Aside0.mk (KeepBut.trans (by repeat (first | (with_reducible first | exact HK.out | apply KeepBut.set_ | apply keep_drewN | apply keep_drew | apply keep_alloc) | exact HK.out)) hk (.inl rfl)); have n2_ := Aside0.mk (hb); have n3_ := Aside0.mk (hi); clear HO_4; clear HK; clear HB; clear HI0; have HO_4 := n0_; have HK := n1_; have HB := n2_; have HI0 := n3_; clear n0_ n1_ n2_ n3_; (try clear hb); (try clear hb2); (try clear hk); (try clear hi)) | ((with_reducible refine gate_callee (f := 13) rfl ?_); refine goesL_ (some 20) rfl rfl Try.func13 (by kernel_rfl) rfl #[.int .u8 t120] rfl (by (try simp only [List.map_toArray, List.map_cons, List.map_nil]); first | done | rfl | (simp only [List.length_drop, List.length_take]; rfl)) ?_; (with_reducible refine (labels_isSpecialSymbol.calls t120 false _ A10.out).mono ?_); rintro e w' ⟨rfl, ⟨nd, rfl⟩⟩; refine ⟨_, rfl, ?_⟩) | (go_at_call 18; (with_reducible refine (labels_isWhitespace.calls t120 true _ A21.out).mono ?_); rintro e w' ⟨rfl, ⟨nd, rfl⟩⟩) | ((with_reducible refine gate_callee (f := 14) rfl ?_); refine goesL_ (some 26) rfl rfl Try.func14 (by kernel_rfl) rfl #[.pointer (some ⟨g, 0, none⟩)] rfl (by (try simp only [List.map_toArray, List.map_cons, List.map_nil]); first | done | rfl | (simp only [List.length_drop, List.length_take]; rfl)) ?_; (with_reducible refine (labels_Lexer_unread.calls g t121 t122 t131 t132 w0 _ ?side1 ?side2 A23.out).mono ?_); (case side1 => repeat (first | (with_reducible first | exact HI0.out | apply IsS35.alloc | apply IsS35.drewN | apply IsS35.drew | apply IsS35.set_0 | apply IsS35.set_1) | exact HI0.out)); (case side2 => repeat (first | (with_reducible first | exact HB.out | apply below_alloc | apply pw_below_drewN | apply below_drew1 | refine below_set ?_ (IsS35.ge HI0.out)) | exact HB.out)); rintro e w30 ⟨rfl, hi, hb, hk⟩; refine ⟨_, rfl, ?_⟩; have n0_ := Aside0.mk (Kd.R_mono (Kd.R_keep (IsS35.apart (show IsS35 w0 _ g t121 t122 from by repeat (first | (with_reducible first | exact HI0.out | apply IsS35.alloc | apply IsS35.drewN | apply IsS35.drew | apply IsS35.set_0 | apply IsS35.set_1) | exact HI0.out)) (by (with_reducible repeat (first | apply Kd.R_alloc | apply Kd.R_drewN | apply Kd.R_drew)); exact HO_4.out) (by decide)) hk (fun _ h => h.2)) (fun _ h => h.1)); have n1_ := Aside0.mk (KeepBut.trans (by repeat (first | (with_reducible first | exact HK.out | apply KeepBut.set_ | apply keep_drewN | apply keep_drew | apply keep_alloc) | exact HK.out)) hk (.inl rfl)); have n2_ := Aside0.mk (hb); have n3_ := Aside0.mk (hi); clear HO_4; clear HK; clear HB; clear HI0; have HO_4 := n0_; have HK := n1_; have HB := n2_; have HI0 := n3_; clear n0_ n1_ n2_ n3_; (try clear hb); (try clear hb2); (try clear hk); (try clear hi); have hcv31 := own_string (P := Try.prog) Try.underlying40 Try.underlying5 Try.underlying9 (Kd.own_of_R HO_4.out); have hcv31d := (fun nd_ => own_string (P := Try.prog) Try.underlying40 Try.underlying5 Try.underlying9 (Kd.own_of_R (Kd.R_drewN HO_4.out nd_)))) | ((with_reducible refine gate_callee (f := 19) rfl ?_); refine goesL_ (some 31) rfl rfl Try.func19 (by kernel_rfl) rfl #[.string (strOfNums x4_1)] rfl (by (try simp only [List.map_toArray, List.map_cons, List.map_nil]); first | done | rfl | (simp only [List.length_drop, List.length_take]; rfl)) ?_; (with_reducible refine (labels_string2token.calls (strOfNums x4_1) t133 false _ A24.out).mono ?_); rintro e w' ⟨rfl, ⟨nd, rfl⟩⟩; refine ⟨_, rfl, ?_⟩))
              (try rw [Exit.noGoto_ret]); go_ret2
              exact ⟨by first | rfl | (simp [errW_none, errW_some] <;> rfl) | (simp [*, errW_none, errW_some] <;> rfl) | (exfalso; contradiction), by repeat (first | (with_reducible first | exact HI0.out | apply IsS35.alloc | apply IsS35.drewN | apply IsS35.drew | apply IsS35.set_0 | apply IsS35.set_1) | exact HI0.out), by repeat (first | (with_reducible first | exact HB.out | apply below_alloc | apply pw_below_drewN | apply below_drew1 | refine below_set ?_ (IsS35.ge HI0.out)) | exact HB.out), by repeat (first | (with_reducible first | exact HK.out | apply KeepBut.set_ | apply keep_drewN | apply keep_drew | apply keep_alloc) | exact HK.out)⟩
          · replace c22 := Bool.eq_false_iff.mpr c22
            subst c22
            have H1 : (if x4_1.length < 140737488355328 then (labels_Lexer_scanIDOrKeyword.l0 k1 (x4_1 ++ [t120]) t121 t122) else (none)) = some (r1, r2, r3, r4) := by rw [if_neg (show ¬ (false = true) by decide)] at H; exact H
            clear H
            have H := H1
            clear H1
            by_cases c32 : x4_1.length < 140737488355328
            · rw [if_pos c32] at H
              have LMc32 := Aside0.mk c32
              clear c32
              obtain ⟨y135, hy135⟩ : ∃ y_ : List Int, y_ = (x4_1 ++ [t120]) := ⟨_, rfl⟩
              replace H : (labels_Lexer_scanIDOrKeyword.l0 k1 y135 t121 t122) = some (r1, r2, r3, r4) := by first | (rw [hy135]; with_reducible exact H) | (have H2_ := (Option.bind_some _ _).symm.trans H; rw [hy135]; with_reducible exact H2_) | (have H2_ := (Option.bind_some _ _).symm.trans H; with_reducible exact H2_) | with_reducible exact H | (rw [hy135]; exact H) | exact H
              have Ny135 := Aside0.mk hy135
              clear hy135
              have H' := Aside0.mk H
              clear H
              go_wp2_with (first | ((with_reducible refine gate_callee (f := 12) rfl ?_); refine goesL_ (some 10) rfl rfl Try.func12 (by kernel_rfl) rfl #[.pointer (some ⟨g, 0, none⟩)] rfl (by (try simp only [List.map_toArray, List.map_cons, List.map_nil]); first | done | rfl | (simp only [List.length_drop, List.length_take]; rfl)) ?_; (with_reducible refine (labels_Lexer_read.calls g x1000_1 x1001_1 t120 t121 t122 w0 _ ?side1 ?side2 A2.out).mono ?_); (case side1 => repeat (first | (with_reducible first | exact HI0.out | apply IsS35.alloc | apply IsS35.drewN | apply IsS35.drew | apply IsS35.set_0 | apply IsS35.set_1) | exact HI0.out)); (case side2 => repeat (first | (with_reducible first | exact HB.out | apply below_alloc | apply pw_below_drewN | apply below_drew1 | refine below_set ?_ (IsS35.ge HI0.out)) | exact HB.out)); rintro e w33 ⟨rfl, hi, hb, hk⟩; refine ⟨_, rfl, ?_⟩; have n0_ := Aside0.mk (Kd.R_mono (Kd.R_keep (IsS35.apart (show IsS35 w0 _ g x1000_1 x1001_1 from by repeat (first | (with_reducible first | exact HI0.out | apply IsS35.alloc | apply IsS35.drewN | apply IsS35.drew | apply IsS35.set_0 | apply IsS35.set_1) | exact HI0.out)) (by (with_reducible repeat (first | apply Kd.R_alloc | apply Kd.R_drewN | apply Kd.R_drew)); exact HO_4.out) (by decide)) hk (fun _ h => h.2)) (fun _ h => h.1)); have n1_ := Aside0.mk (KeepBut.trans (by repeat (first | (with_reducible first | exact HK.out | apply KeepBut.set_ | apply keep_drewN | apply keep_drew | apply keep_alloc) | exact HK.out)) hk (.inl rfl)); have n2_ := Aside0.mk (hb); have n3_ := Aside0.mk (hi); clear HO_4; clear HK; clear HB; clear HI0; have HO_4 := n0_; have HK := n1_; have HB := n2_; have HI0 := n3_; clear n0_ n1_ n2_ n3_; (try clear hb); (try clear hb2); (try clear hk); (try clear hi)) | ((with_reducible refine gate_callee (f := 13) rfl ?_); refine goesL_ (some 20) rfl rfl Try.func13 (by kernel_rfl) rfl #[.int .u8 t120] rfl (by (try simp only [List.map_toArray, List.map_cons, List.map_nil]); first | done | rfl | (simp only [List.length_drop, List.length_take]; rfl)) ?_; (with_reducible refine (labels_isSpecialSymbol.calls t120 false _ A10.out).mono ?_); rintro e w' ⟨rfl, ⟨nd, rfl⟩⟩; refine ⟨_, rfl, ?_⟩) | (go_at_call 18; (with_reducible refine (labels_isWhitespace.calls t120 false _ A21.out).mono ?_); rintro e w' ⟨rfl, ⟨nd, rfl⟩⟩) | ((with_reducible refine gate_builtin (b := .append) (xs := #[.tmp 11, .tmp 13]) rfl ?_); at_builtin; refine Kd.R_append (Kd.int .u8) w.heap.size rfl (.tmp 11) (.tmp 13) 40 5 (.int .u8 0) 1 rfl Try.underlying40 info5 rfl (by decide) (by omega) u4 x4_1 t120 [.int .u8 t120] (fun _ => True) (fun _ => False) rfl rfl ?aP (fun _ hk => hk.elim) ?aF ?aO (Below.refl _ _) ?aS ?aL ?_; (case aP => exact rfl); (case aF => exact (fun _ _ => trivial)); (case aO => exact (by (with_reducible repeat (first | apply Kd.R_alloc | apply Kd.R_drewN | apply Kd.R_drew)); exact HO_4.out)); (case aS => exact (keep_size (w := w) (g := g) (row := none) (by repeat (first | (with_reducible first | exact HK.out | apply KeepBut.set_ | apply keep_drewN | apply keep_drew | apply keep_alloc) | exact HK.out)))); (case aL => have := LMc32.out; omega); intro v136 w34 ho hb hg hat; rw [← Ny135.out] at ho; have n0_ := Aside0.mk (IsS35.grown (by repeat (first | (with_reducible first | exact HI0.out | apply IsS35.alloc | apply IsS35.drewN | apply IsS35.drew | apply IsS35.set_0 | apply IsS35.set_1) | exact HI0.out)) hg (IsS35.own_ne HI0.out HO_4.out (by decide))); have n1_ := Aside0.mk (below_weaken (by repeat (first | (with_reducible first | exact HB.out | apply below_alloc | apply pw_below_drewN | apply below_drew1 | refine below_set ?_ (IsS35.ge HI0.out)) | exact HB.out)) HL.out hb); have n2_ := Aside0.mk (KeepBut.trans (by repeat (first | (with_reducible first | exact HK.out | apply KeepBut.set_ | apply keep_drewN | apply keep_drew | apply keep_alloc) | exact HK.out)) (KeepBut.of_grown hg g) (Kd.R_base2 HO_4.out)); have n3_ := Aside0.mk (ho); clear HI0; clear HB; clear HK; clear HO_4; have HI0 := n0_; have HB := n1_; have HK := n2_; have HO137 := n3_; clear n0_ n1_ n2_ n3_; clear ho hb hg hat))
              go_roundg k1
              case measure => have := HK1.out; omega
              case rel => exact ⟨(y135), (t121), (t122), H', ⟨by have := HK1.out; omega⟩, ⟨by (with_reducible repeat (first | apply Kd.R_alloc | apply Kd.R_drewN | apply Kd.R_drew)); exact HO137.out⟩, ⟨by repeat (first | (with_reducible first | exact HI0.out | apply IsS35.alloc | apply IsS35.drewN | apply IsS35.drew | apply IsS35.set_0 | apply IsS35.set_1) | exact HI0.out)⟩, ⟨by repeat (first | (with_reducible first | exact HK.out | apply KeepBut.set_ | apply keep_drewN | apply keep_drew | apply keep_alloc) | exact HK.out)⟩, ⟨by repeat (first | (with_reducible first | exact HB.out | apply below_alloc | apply pw_below_drewN | apply below_drew1 | refine below_set ?_ (IsS35.ge HI0.out)) | exact HB.out)⟩⟩
            · rw [if_neg c32] at H
              exact absurd H (by simp)

/-! ### labels_Lexer_Lex: function 7 -/
def labels_Lexer_Lex.f (k : Nat) (s0_0 : ByteArray) (s0_1 : Int) : Option (Int × ByteArray × ByteArray × Int) := (labels_Lexer_read.f s0_0 s0_1).bind fun bt138 => ((labels_Lexer_skipWhiteSpaces.f k bt138.2.1 bt138.2.2 bt138.1).bind fun bt141 => (if bt141.1 = 0 then (some (1, (⟨#[]⟩ : ByteArray), bt141.2.1, bt141.2.2)) else ((labels_isSpecialSymbol.f bt141.1).bind fun t144 => (if t144 = true then ((labels_Lexer_unread.f bt141.2.1 bt141.2.2).bind fun bt145 => ((labels_Lexer_scanSpecialSymbol.f k bt145.1 bt145.2).bind fun bt147 => (some (bt147.1, bt147.2.1, bt147.2.2.1, bt147.2.2.2)))) else ((labels_Lexer_unread.f bt141.2.1 bt141.2.2).bind fun bt151 => ((labels_Lexer_scanIDOrKeyword.f k bt151.1 bt151.2).bind fun bt153 => (some (bt153.1, bt153.2.1, bt153.2.2.1, bt153.2.2.2))))))))
theorem labels_Lexer_Lex.mono : ∀ a0 a1 k, LeO (labels_Lexer_Lex.f k a0 a1) (labels_Lexer_Lex.f (k + 1) a0 a1) := by
  intro a0 a1 k
  unfold labels_Lexer_Lex.f
  repeat' first
      | (with_reducible exact labels_Lexer_scanIDOrKeyword.mono _ _ _)
      | (with_reducible exact labels_Lexer_scanSpecialSymbol.mono _ _ _)
      | (with_reducible exact labels_Lexer_skipWhiteSpaces.mono _ _ _ _)
      | (with_reducible exact LeO.refl _)
      | (with_reducible exact LeO.none _)
      | (with_reducible refine LeO.ite ?_ ?_)
      | (with_reducible refine LeO.bind ?_ (fun _ => ?_))
      | exact labels_Lexer_scanIDOrKeyword.mono _ _ _
      | exact labels_Lexer_scanSpecialSymbol.mono _ _ _
      | exact labels_Lexer_skipWhiteSpaces.mono _ _ _ _
      | exact LeO.none _
      | refine LeO.ite ?_ ?_
      | refine LeO.bind ?_ (fun _ => ?_)
set_option maxHeartbeats 8000000 in
set_option maxRecDepth 100000 in
theorem labels_Lexer_Lex.calls (k : Nat) (g : Nat) (s0_0 : ByteArray) (s0_1 : Int) (r1 : Int) (r2 : ByteArray) (r3 : ByteArray) (r4 : Int) (w0 w : World) (hI : IsS35 w0 w g s0_0 s0_1) (hB : Below w0.heap.size w0 w) (h : labels_Lexer_Lex.f k s0_0 s0_1 = some (r1, r2, r3, r4)) :
    Calls Try.prog 7 #[.pointer (some ⟨g, 0, none⟩)] w fun e w' => e = .returned (.tuple #[.int .i64 r1, .string r2]) ∧ IsS35 w0 w' g r3 r4 ∧ Below w0.heap.size w0 w' ∧ KeepBut w w' g none := by
  have HI0 := Aside0.mk hI
  have HK := Aside0.mk (KeepBut.refl w g none)
  have HL := Aside0.mk hB.size
  clear hI
  have HW0 := Aside0.mk hB.size
  have HB := Aside0.mk hB
  clear hB
  have H : ((labels_Lexer_read.f s0_0 s0_1).bind fun bt138 => ((labels_Lexer_skipWhiteSpaces.f k bt138.2.1 bt138.2.2 bt138.1).bind fun bt141 => (if bt141.1 = 0 then (some (1, (⟨#[]⟩ : ByteArray), bt141.2.1, bt141.2.2)) else ((labels_isSpecialSymbol.f bt141.1).bind fun t144 => (if t144 = true then ((labels_Lexer_unread.f bt141.2.1 bt141.2.2).bind fun bt145 => ((labels_Lexer_scanSpecialSymbol.f k bt145.1 bt145.2).bind fun bt147 => (some (bt147.1, bt147.2.1, bt147.2.2.1, bt147.2.2.2)))) else ((labels_Lexer_unread.f bt141.2.1 bt141.2.2).bind fun bt151 => ((labels_Lexer_scanIDOrKeyword.f k bt151.1 bt151.2).bind fun bt153 => (some (bt153.1, bt153.2.1, bt153.2.2.1, bt153.2.2.2))))))))) = some (r1, r2, r3, r4) := h
  clear h
  replace H := Option.bind_eq_some_iff.mp H
  obtain ⟨⟨t138, t139, t140⟩, A20, H⟩ := H
  replace H : ((labels_Lexer_skipWhiteSpaces.f k t139 t140 t138).bind fun bt141 => (if bt141.1 = 0 then (some (1, (⟨#[]⟩ : ByteArray), bt141.2.1, bt141.2.2)) else ((labels_isSpecialSymbol.f bt141.1).bind fun t144 => (if t144 = true then ((labels_Lexer_unread.f bt141.2.1 bt141.2.2).bind fun bt145 => ((labels_Lexer_scanSpecialSymbol.f k bt145.1 bt145.2).bind fun bt147 => (some (bt147.1, bt147.2.1, bt147.2.2.1, bt147.2.2.2)))) else ((labels_Lexer_unread.f bt141.2.1 bt141.2.2).bind fun bt151 => ((labels_Lexer_scanIDOrKeyword.f k bt151.1 bt151.2).bind fun bt153 => (some (bt153.1, bt153.2.1, bt153.2.2.1, bt153.2.2.2)))))))) = some (r1, r2, r3, r4) := H
  have A2 := Aside0.mk A20
  clear A20
  replace H := Option.bind_eq_some_iff.mp H
  obtain ⟨⟨t141, t142, t143⟩, A30, H⟩ := H
  replace H : (if t141 = 0 then (some (1, (⟨#[]⟩ : ByteArray), t142, t143)) else ((labels_isSpecialSymbol.f t141).bind fun t144 => (if t144 = true then ((labels_Lexer_unread.f t142 t143).bind fun bt145 => ((labels_Lexer_scanSpecialSymbol.f k bt145.1 bt145.2).bind fun bt147 => (some (bt147.1, bt147.2.1, bt147.2.2.1, bt147.2.2.2)))) else ((labels_Lexer_unread.f t142 t143).bind fun bt151 => ((labels_Lexer_scanIDOrKeyword.f k bt151.1 bt151.2).bind fun bt153 => (some (bt153.1, bt153.2.1, bt153.2.2.1, bt153.2.2.2))))))) = some (r1, r2, r3, r4) := H
  have A3 := Aside0.mk A30
  clear A30
  by_cases c4 : t141 = 0
  · rw [if_pos c4] at H
    have c4b0 : (t141 == 0) = true := beq_iff_eq.mpr c4
    have c4b1 : (t141 != 0) = false := bne_eq_false_iff_eq.mpr c4
    clear c4
    simp only [Option.some.injEq, Prod.mk.injEq] at H
    obtain ⟨rfl, rfl, rfl, rfl⟩ := H
    go_enter Try.func7, Try.ntmps7
    go_wp2_with (first | ((with_reducible refine gate_callee (f := 12) rfl ?_); refine goesL_ (some 7) rfl rfl Try.func12 (by kernel_rfl) rfl #[.pointer (some ⟨g, 0, none⟩)] rfl (by (try simp only [List.map_toArray, List.map_cons, List.map_nil]); first | done | rfl | (simp only [List.length_drop, List.length_take]; rfl)) ?_; (with_reducible refine (labels_Lexer_read.calls g s0_0 s0_1 t138 t139 t140 w0 _ ?side1 ?side2 A2.out).mono ?_); (case side1 => repeat (first | (with_reducible first | exact HI0.out | apply IsS35.alloc | apply IsS35.drewN | apply IsS35.drew | apply IsS35.set_0 | apply IsS35.set_1) | exact HI0.out)); (case side2 => repeat (first | (with_reducible first | exact HB.out | apply below_alloc | apply pw_below_drewN | apply below_drew1 | refine below_set ?_ (IsS35.ge HI0.out)) | exact HB.out)); rintro e w5 ⟨rfl, hi, hb, hk⟩; refine ⟨_, rfl, ?_⟩; have n0_ := Aside0.mk (KeepBut.trans (by repeat (first | (with_reducible first | exact HK.out | apply KeepBut.set_ | apply keep_drewN | apply keep_drew | apply keep_alloc) | exact HK.out)) hk (.inl rfl)); have n1_ := Aside0.mk (hb); have n2_ := Aside0.mk (hi); clear HK; clear HB; clear HI0; have HK := n0_; have HB := n1_; have HI0 := n2_; clear n0_ n1_ n2_; (try clear hb); (try clear hb2); (try clear hk); (try clear hi)) | ((with_reducible refine gate_callee (f := 11) rfl ?_); refine goesL_ (some 8) rfl rfl Try.func11 (by kernel_rfl) rfl #[.pointer (some ⟨g, 0, none⟩), .int .u8 t138] rfl (by (try simp only [List.map_toArray, List.map_cons, List.map_nil]); first | done | rfl | (simp only [List.length_drop, List.length_take]; rfl)) ?_; (with_reducible refine (labels_Lexer_skipWhiteSpaces.calls k g t139 t140 t138 t141 t142 t143 w0 _ ?side1 ?side2 A3.out).mono ?_); (case side1 => repeat (first | (with_reducible first | exact HI0.out | apply IsS35.alloc | apply IsS35.drewN | apply IsS35.drew | apply IsS35.set_0 | apply IsS35.set_1) | exact HI0.out)); (case side2 => repeat (first | (with_reducible first | exact HB.out | apply below_alloc | apply pw_below_drewN | apply below_drew1 | refine below_set ?_ (IsS35.ge HI0.out)) | exact HB.out)); rintro e w6 ⟨rfl, hi, hb, hk⟩; refine ⟨_, rfl, ?_⟩; have n0_ := Aside0.mk (KeepBut.trans (by repeat (first | (with_reducible first | exact HK.out | apply KeepBut.set_ | apply keep_drewN | apply keep_drew | apply keep_alloc) | exact HK.out)) hk (.inl rfl)); have n1_ := Aside0.mk (hb); have n2_ := Aside0.mk (hi); clear HK; clear HB; clear HI0; have HK := n0_; have HB := n1_; have HI0 := n2_; clear n0_ n1_ n2_; (try clear hb); (try clear hb2); (try clear hk); (try clear hi)))
    go_ret2
    exact ⟨by first | rfl | (simp [errW_none, errW_some] <;> rfl) | (simp [*, errW_none, errW_some] <;> rfl) | (exfalso; contradiction), by repeat (first | (with_reducible first | exact HI0.out | apply IsS35.alloc | apply IsS35.drewN | apply IsS35.drew | apply IsS35.set_0 | apply IsS35.set_1) | exact HI0.out), by repeat (first | (with_reducible first | exact HB.out | apply below_alloc | apply pw_below_drewN | apply below_drew1 | refine below_set ?_ (IsS35.ge HI0.out)) | exact HB.out), by repeat (first | (with_reducible first | exact HK.out | apply KeepBut.set_ | apply keep_drewN | apply keep_drew | apply keep_alloc) | exact HK.out)⟩
  · rw [if_neg c4] at H
    have c4b0 : (t141 == 0) = false := beq_eq_false_iff_ne.mpr c4
    have c4b1 : (t141 != 0) = true := bne_iff_ne.mpr c4
    replace H := Option.bind_eq_some_iff.mp H
    obtain ⟨t144, A70, H⟩ := H
    replace H : (if t144 = true then ((labels_Lexer_unread.f t142 t143).bind fun bt145 => ((labels_Lexer_scanSpecialSymbol.f k bt145.1 bt145.2).bind fun bt147 => (some (bt147.1, bt147.2.1, bt147.2.2.1, bt147.2.2.2)))) else ((labels_Lexer_unread.f t142 t143).bind fun bt151 => ((labels_Lexer_scanIDOrKeyword.f k bt151.1 bt151.2).bind fun bt153 => (some (bt153.1, bt153.2.1, bt153.2.2.1, bt153.2.2.2))))) = some (r1, r2, r3, r4) := H
    have A7 := Aside0.mk A70
    clear A70
    by_cases c8 : t144 = true
    · subst c8
      have H1 : ((labels_Lexer_unread.f t142 t143).bind fun bt145 => ((labels_Lexer_scanSpecialSymbol.f k bt145.1 bt145.2).bind fun bt147 => (some (bt147.1, bt147.2.1, bt147.2.2.1, bt147.2.2.2)))) = some (r1, r2, r3, r4) := by rw [if_pos rfl] at H; exact H
      clear H
      have H := H1
      clear H1
      replace H := Option.bind_eq_some_iff.mp H
      obtain ⟨⟨t145, t146⟩, A90, H⟩ := H
      replace H : ((labels_Lexer_scanSpecialSymbol.f k t145 t146).bind fun bt147 => (some (bt147.1, bt147.2.1, bt147.2.2.1, bt147.2.2.2))) = some (r1, r2, r3, r4) := H
      have A9 := Aside0.mk A90
      clear A90
      replace H := Option.bind_eq_some_iff.mp H
      obtain ⟨⟨t147, t148, t149, t150⟩, A100, H⟩ := H
      replace H : (some (t147, t148, t149, t150)) = some (r1, r2, r3, r4) := H
      have A10 := Aside0.mk A100
      clear A100
      simp only [Option.some.injEq, Prod.mk.injEq] at H
      obtain ⟨rfl, rfl, rfl, rfl⟩ := H
      go_enter Try.func7, Try.ntmps7
      go_wp2_with (first | ((with_reducible refine gate_callee (f := 12) rfl ?_); refine goesL_ (some 7) rfl rfl Try.func12 (by kernel_rfl) rfl #[.pointer (some ⟨g, 0, none⟩)] rfl (by (try simp only [List.map_toArray, List.map_cons, List.map_nil]); first | done | rfl | (simp only [List.length_drop, List.length_take]; rfl)) ?_; (with_reducible refine (labels_Lexer_read.calls g s0_0 s0_1 t138 t139 t140 w0 _ ?side1 ?side2 A2.out).mono ?_); (case side1 => repeat (first | (with_reducible first | exact HI0.out | apply IsS35.alloc | apply IsS35.drewN | apply IsS35.drew | apply IsS35.set_0 | apply IsS35.set_1) | exact HI0.out)); (case side2 => repeat (first | (with_reducible first | exact HB.out | apply below_alloc | apply pw_below_drewN | apply below_drew1 | refine below_set ?_ (IsS35.ge HI0.out)) | exact HB.out)); rintro e w11 ⟨rfl, hi, hb, hk⟩; refine ⟨_, rfl, ?_⟩; have n0_ := Aside0.mk (KeepBut.trans (by repeat (first | (with_reducible first | exact HK.out | apply KeepBut.set_ | apply keep_drewN | apply keep_drew | apply keep_alloc) | exact HK.out)) hk (.inl rfl)); have n1_ := Aside0.mk (hb); have n2_ := Aside0.mk (hi); clear HK; clear HB; clear HI0; have HK := n0_; have HB := n1_; have HI0 := n2_; clear n0_ n1_ n2_; (try clear hb); (try clear hb2); (try clear hk); (try clear hi)) | ((with_reducible refine gate_callee (f := 11) rfl ?_); refine goesL_ (some 8) rfl rfl Try.func11 (by kernel_rfl) rfl #[.pointer (some ⟨g, 0, none⟩), .int .u8 t138] rfl (by (try simp only [List.map_toArray, List.map_cons, List.map_nil]); first | done | rfl | (simp only [List.length_drop, List.length_take]; rfl)) ?_; (with_reducible refine (labels_Lexer_skipWhiteSpaces.calls k g t139 t140 t138 t141 t142 t143 w0 _ ?side1 ?side2 A3.out).mono ?_); (case side1 => repeat (first | (with_reducible first | exact HI0.out | apply IsS35.alloc | apply IsS35.drewN | apply IsS35.drew | apply IsS35.set_0 | apply IsS35.set_1) | exact HI0.out)); (case side2 => repeat (first | (with_reducible first | exact HB.out | apply below_alloc | apply pw_below_drewN | apply below_drew1 | refine below_set ?_ (IsS35.ge HI0.out)) | exact HB.out)); rintro e w12 ⟨rfl, hi, hb, hk⟩; refine ⟨_, rfl, ?_⟩; have n0_ := Aside0.mk (KeepBut.trans (by repeat (first | (with_reducible first | exact HK.out | apply KeepBut.set_ | apply keep_drewN | apply keep_drew | apply keep_alloc) | exact HK.out)) hk (.inl rfl)); have n1_ := Aside0.mk (hb); have n2_ := Aside0.mk (hi); clear HK; clear HB; clear HI0; have HK := n0_; have HB := n1_; have HI0 := n2_; clear n0_ n1_ n2_; (try clear hb); (try clear hb2); (try clear hk); (try clear hi)) | ((with_reducible refine gate_callee (f := 13) rfl ?_); refine goesL_ (some 20) rfl rfl Try.func13 (by kernel_rfl) rfl #[.int .u8 t141] rfl (by (try simp only [List.map_toArray, List.map_cons, List.map_nil]); first | done | rfl | (simp only [List.length_drop, List.length_take]; rfl)) ?_; (with_reducible refine (labels_isSpecialSymbol.calls t141 true _ A7.out).mono ?_); rintro e w' ⟨rfl, ⟨nd, rfl⟩⟩; refine ⟨_, rfl, ?_⟩) | ((with_reducible refine gate_callee (f := 14) rfl ?_); refine goesL_ (some 22) rfl rfl Try.func14 (by kernel_rfl) rfl #[.pointer (some ⟨g, 0, none⟩)] rfl (by (try simp only [List.map_toArray, List.map_cons, List.map_nil]); first | done | rfl | (simp only [List.length_drop, List.length_take]; rfl)) ?_; (with_reducible refine (labels_Lexer_unread.calls g t142 t143 t145 t146 w0 _ ?side1 ?side2 A9.out).mono ?_); (case side1 => repeat (first | (with_reducible first | exact HI0.out | apply IsS35.alloc | apply IsS35.drewN | apply IsS35.drew | apply IsS35.set_0 | apply IsS35.set_1) | exact HI0.out)); (case side2 => repeat (first | (with_reducible first | exact HB.out | apply below_alloc | apply pw_below_drewN | apply below_drew1 | refine below_set ?_ (IsS35.ge HI0.out)) | exact HB.out)); rintro e w13 ⟨rfl, hi, hb, hk⟩; refine ⟨_, rfl, ?_⟩; have n0_ := Aside0.mk (KeepBut.trans (by repeat (first | (with_reducible first | exact HK.out | apply KeepBut.set_ | apply keep_drewN | apply keep_drew | apply keep_alloc) | exact HK.out)) hk (.inl rfl)); have n1_ := Aside0.mk (hb); have n2_ := Aside0.mk (hi); clear HK; clear HB; clear HI0; have HK := n0_; have HB := n1_; have HI0 := n2_; clear n0_ n1_ n2_; (try clear hb); (try clear hb2); (try clear hk); (try clear hi)) | ((with_reducible refine gate_callee (f := 15) rfl ?_); refine goesL_ (some 24) rfl rfl Try.func15 (by kernel_rfl) rfl #[.pointer (some ⟨g, 0, none⟩)] rfl (by (try simp only [List.map_toArray, List.map_cons, List.map_nil]); first | done | rfl | (simp only [List.length_drop, List.length_take]; rfl)) ?_; (with_reducible refine (labels_Lexer_scanSpecialSymbol.calls k g t145 t146 t147 t148 t149 t150 w0 _ ?side1 ?side2 A10.out).mono ?_); (case side1 => repeat (first | (with_reducible first | exact HI0.out | apply IsS35.alloc | apply IsS35.drewN | apply IsS35.drew | apply IsS35.set_0 | apply IsS35.set_1) | exact HI0.out)); (case side2 => repeat (first | (with_reducible first | exact HB.out | apply below_alloc | apply pw_below_drewN | apply below_drew1 | refine below_set ?_ (IsS35.ge HI0.out)) | exact HB.out)); rintro e w14 ⟨rfl, hi, hb, hk⟩; refine ⟨_, rfl, ?_⟩; have n0_ := Aside0.mk (KeepBut.trans (by repeat (first | (with_reducible first | exact HK.out | apply KeepBut.set_ | apply keep_drewN | apply keep_drew | apply keep_alloc) | exact HK.out)) hk (.inl rfl)); have n1_ := Aside0.mk (hb); have n2_ := Aside0.mk (hi); clear HK; clear HB; clear HI0; have HK := n0_; have HB := n1_; have HI0 := n2_; clear n0_ n1_ n2_; (try clear hb); (try clear hb2); (try clear hk); (try clear hi)))
      go_ret2
      exact ⟨by first | rfl | (simp [errW_none, errW_some] <;> rfl) | (simp [*, errW_none, errW_some] <;> rfl) | (exfalso; contradiction), by repeat (first | (with_reducible first | exact HI0.out | apply IsS35.alloc | apply IsS35.drewN | apply IsS35.drew | apply IsS35.set_0 | apply IsS35.set_1) | exact HI0.out), by repeat (first | (with_reducible first | exact HB.out | apply below_alloc | apply pw_below_drewN | apply below_drew1 | refine below_set ?_ (IsS35.ge HI0.out)) | exact HB.out), by repeat (first | (with_reducible first | exact HK.out | apply KeepBut.set_ | apply keep_drewN | apply keep_drew | apply keep_alloc) | exact HK.out)⟩
    · replace c8 := Bool.eq_false_iff.mpr c8
      subst c8
      have H1 : ((labels_Lexer_unread.f t142 t143).bind fun bt151 => ((labels_Lexer_scanIDOrKeyword.f k bt151.1 bt151.2).bind fun bt153 => (some (bt153.1, bt153.2.1, bt153.2.2.1, bt153.2.2.2)))) = some (r1, r2, r3, r4) := by rw [if_neg (show ¬ (false = true) by decide)] at H; exact H
      clear H
      have H := H1
      clear H1
      replace H := Option.bind_eq_some_iff.mp H
      obtain ⟨⟨t151, t152⟩, A150, H⟩ := H
      replace H : ((labels_Lexer_scanIDOrKeyword.f k t151 t152).bind fun bt153 => (some (bt153.1, bt153.2.1, bt153.2.2.1, bt153.2.2.2))) = some (r1, r2, r3, r4) := H
      have A15 := Aside0.mk A150
      clear A150
      replace H := Option.bind_eq_some_iff.mp H
      obtain ⟨⟨t153, t154, t155, t156⟩, A160, H⟩ := H
      replace H : (some (t153, t154, t155, t156)) = some (r1, r2, r3, r4) := H
      have A16 := Aside0.mk A160
      clear A160
      simp only [Option.some.injEq, Prod.mk.injEq] at H
      obtain ⟨rfl, rfl, rfl, rfl⟩ := H
      go_enter Try.func7, Try.ntmps7
      go_wp2_with (first | ((with_reducible refine gate_callee (f := 12) rfl ?_); refine goesL_ (some 7) rfl rfl Try.func12 (by kernel_rfl) rfl #[.pointer (some ⟨g, 0, none⟩)] rfl (by (try simp only [List.map_toArray, List.map_cons, List.map_nil]); first | done | rfl | (simp only [List.length_drop, List.length_take]; rfl)) ?_; (with_reducible refine (labels_Lexer_read.calls g s0_0 s0_1 t138 t139 t140 w0 _ ?side1 ?side2 A2.out).mono ?_); (case side1 => repeat (first | (with_reducible first | exact HI0.out | apply IsS35.alloc | apply IsS35.drewN | apply IsS35.drew | apply IsS35.set_0 | apply IsS35.set_1) | exact HI0.out)); (case side2 => repeat (first | (with_reducible first | exact HB.out | apply below_alloc | apply pw_below_drewN | apply below_drew1 | refine below_set ?_ (IsS35.ge HI0.out)) | exact HB.out)); rintro e w17 ⟨rfl, hi, hb, hk⟩; refine ⟨_, rfl, ?_⟩; have n0_ := Aside0.mk (KeepBut.trans (by repeat (first | (with_reducible first | exact HK.out | apply KeepBut.set_ | apply keep_drewN | apply keep_drew | apply keep_alloc) | exact HK.out)) hk (.inl rfl)); have n1_ := Aside0.mk (hb); have n2_ := Aside0.mk (hi); clear HK; clear HB; clear HI0; have HK := n0_; have HB := n1_; have HI0 := n2_; clear n0_ n1_ n2_; (try clear hb); (try clear hb2); (try clear hk); (try clear hi)) | ((with_reducible refine gate_callee (f := 11) rfl ?_); refine goesL_ (some 8) rfl rfl Try.func11 (by kernel_rfl) rfl #[.pointer (some ⟨g, 0, none⟩), .int .u8 t138] rfl (by (try simp only [List.map_toArray, List.map_cons, List.map_nil]); first | done | rfl | (simp only [List.length_drop, List.length_take]; rfl)) ?_; (with_reducible refine (labels_Lexer_skipWhiteSpaces.calls k g t139 t140 t138 t141 t142 t143 w0 _ ?side1 ?side2 A3.out).mono ?_); (case side1 => repeat (first | (with_reducible first | exact HI0.out | apply IsS35.alloc | apply IsS35.drewN | apply IsS35.drew | apply IsS35.set_0 | apply IsS35.set_1) | exact HI0.out)); (case side2 => repeat (first | (with_reducible first | exact HB.out | apply below_alloc | apply pw_below_drewN | apply below_drew1 | refine below_set ?_ (IsS35.ge HI0.out)) | exact HB.out)); rintro e w18 ⟨rfl, hi, hb, hk⟩; refine ⟨_, rfl, ?_⟩; have n0_ := Aside0.mk (KeepBut.trans (by repeat (first | (with_reducible first | exact HK.out | apply KeepBut.set_ | apply keep_drewN | apply keep_drew | apply keep_alloc) | exact HK.out)) hk (.inl rfl)); have n1_ := Aside0.mk (hb); have n2_ := Aside0.mk (hi); clear HK; clear HB; clear HI0; have HK := n0_; have HB := n1_; have HI0 := n2_; clear n0_ n1_ n2_; (try clear hb); (try clear hb2); (try clear hk); (try clear hi)) | ((with_reducible refine gate_callee (f := 13) rfl ?_); refine goesL_ (some 20) rfl rfl Try.func13 (by kernel_rfl) rfl #[.int .u8 t141] rfl (by (try simp only [List.map_toArray, List.map_cons, List.map_nil]); first | done | rfl | (simp only [List.length_drop, List.length_take]; rfl)) ?_; (with_reducible refine (labels_isSpecialSymbol.calls t141 false _ A7.out).mono ?_); rintro e w' ⟨rfl, ⟨nd, rfl⟩⟩; refine ⟨_, rfl, ?_⟩) | ((with_reducible refine gate_callee (f := 14) rfl ?_); refine goesL_ (some 10) rfl rfl Try.func14 (by kernel_rfl) rfl #[.pointer (some ⟨g, 0, none⟩)] rfl (by (try simp only [List.map_toArray, List.map_cons, List.map_nil]); first | done | rfl | (simp only [List.length_drop, List.length_take]; rfl)) ?_; (with_reducible refine (labels_Lexer_unread.calls g t142 t143 t151 t152 w0 _ ?side1 ?side2 A15.out).mono ?_); (case side1 => repeat (first | (with_reducible first | exact HI0.out | apply IsS35.alloc | apply IsS35.drewN | apply IsS35.drew | apply IsS35.set_0 | apply IsS35.set_1) | exact HI0.out)); (case side2 => repeat (first | (with_reducible first | exact HB.out | apply below_alloc | apply pw_below_drewN | apply below_drew1 | refine below_set ?_ (IsS35.ge HI0.out)) | exact HB.out)); rintro e w19 ⟨rfl, hi, hb, hk⟩; refine ⟨_, rfl, ?_⟩; have n0_ := Aside0.mk (KeepBut.trans (by repeat (first | (with_reducible first | exact HK.out | apply KeepBut.set_ | apply keep_drewN | apply keep_drew | apply keep_alloc) | exact HK.out)) hk (.inl rfl)); have n1_ := Aside0.mk (hb); have n2_ := Aside0.mk (hi); clear HK; clear HB; clear HI0; have HK := n0_; have HB := n1_; have HI0 := n2_; clear n0_ n1_ n2_; (try clear hb); (try clear hb2); (try clear hk); (try clear hi)) | ((with_reducible refine gate_callee (f := 16) rfl ?_); refine goesL_ (some 12) rfl rfl Try.func16 (by kernel_rfl) rfl #[.pointer (some ⟨g, 0, none⟩)] rfl (by (try simp only [List.map_toArray, List.map_cons, List.map_nil]); first | done | rfl | (simp only [List.length_drop, List.length_take]; rfl)) ?_; (with_reducible refine (labels_Lexer_scanIDOrKeyword.calls k g t151 t152 t153 t154 t155 t156 w0 _ ?side1 ?side2 A16.out).mono ?_); (case side1 => repeat (first | (with_reducible first | exact HI0.out | apply IsS35.alloc | apply IsS35.drewN | apply IsS35.drew | apply IsS35.set_0 | apply IsS35.set_1) | exact HI0.out)); (case side2 => repeat (first | (with_reducible first | exact HB.out | apply below_alloc | apply pw_below_drewN | apply below_drew1 | refine below_set ?_ (IsS35.ge HI0.out)) | exact HB.out)); rintro e w20 ⟨rfl, hi, hb, hk⟩; refine ⟨_, rfl, ?_⟩; have n0_ := Aside0.mk (KeepBut.trans (by repeat (first | (with_reducible first | exact HK.out | apply KeepBut.set_ | apply keep_drewN | apply keep_drew | apply keep_alloc) | exact HK.out)) hk (.inl rfl)); have n1_ := Aside0.mk (hb); have n2_ := Aside0.mk (hi); clear HK; clear HB; clear HI0; have HK := n0_; have HB := n1_; have HI0 := n2_; clear n0_ n1_ n2_; (try clear hb); (try clear hb2); (try clear hk); (try clear hi)))
      go_ret2
      exact ⟨by first | rfl | (simp [errW_none, errW_some] <;> rfl) | (simp [*, errW_none, errW_some] <;> rfl) | (exfalso; contradiction), by repeat (first | (with_reducible first | exact HI0.out | apply IsS35.alloc | apply IsS35.drewN | apply IsS35.drew | apply IsS35.set_0 | apply IsS35.set_1) | exact HI0.out), by repeat (first | (with_reducible first | exact HB.out | apply below_alloc | apply pw_below_drewN | apply below_drew1 | refine below_set ?_ (IsS35.ge HI0.out)) | exact HB.out), by repeat (first | (with_reducible first | exact HK.out | apply KeepBut.set_ | apply keep_drewN | apply keep_drew | apply keep_alloc) | exact HK.out)⟩

/-! ### impl_LabelLex: function 4 -/
def impl_LabelLex.l0 : Nat → List (S25) → ByteArray → Int → Option ((List (S25)))
  | 0, _, _, _ => none
  | k + 1, x4, x160000, x160001 => (labels_Lexer_Lex.f k x160000 x160001).bind fun bt160 => (if x4.length < 5864062014805 then ((some (x4 ++ [(⟨bt160.1, bt160.2.1⟩ : S25)] : List (S25))).bind fun y164 => (if bt160.1 = 1 then (some y164) else (if bt160.1 = 0 then (some y164) else (impl_LabelLex.l0 k y164 bt160.2.2.1 bt160.2.2.2)))) else (none))
def impl_LabelLex.f (k : Nat) (a0 : ByteArray) : Option ((List (S25))) := (labels_ZzLexer.f a0).bind fun bt157 => (impl_LabelLex.l0 k ([] : List (S25)) bt157.1 bt157.2)
theorem impl_LabelLex.mono_l : ∀ k, (∀ y0 y1 y2, LeO (impl_LabelLex.l0 k y0 y1 y2) (impl_LabelLex.l0 (k + 1) y0 y1 y2))
  | 0 => fun _ _ _ r h => by simp [impl_LabelLex.l0] at h
  | k + 1 => by
    have ih0 := impl_LabelLex.mono_l k
    · intro y0 y1 y2
      unfold impl_LabelLex.l0
      repeat' first
      | (with_reducible exact ih0 _ _ _)
      | (with_reducible exact labels_Lexer_Lex.mono _ _ _)
      | (with_reducible exact LeO.refl _)
      | (with_reducible exact LeO.none _)
      | (with_reducible refine LeO.ite ?_ ?_)
      | (with_reducible refine LeO.bind ?_ (fun _ => ?_))
      | exact ih0 _ _ _
      | exact labels_Lexer_Lex.mono _ _ _
      | exact LeO.none _
      | refine LeO.ite ?_ ?_
      | refine LeO.bind ?_ (fun _ => ?_)
theorem impl_LabelLex.mono : ∀ a0 k, LeO (impl_LabelLex.f k a0) (impl_LabelLex.f (k + 1) a0) := by
  intro a0 k
  have ih0 := impl_LabelLex.mono_l k
  unfold impl_LabelLex.f
  repeat' first
      | (with_reducible exact ih0 _ _ _)
      | (with_reducible exact labels_Lexer_Lex.mono _ _ _)
      | (with_reducible exact LeO.refl _)
      | (with_reducible exact LeO.none _)
      | (with_reducible refine LeO.ite ?_ ?_)
      | (with_reducible refine LeO.bind ?_ (fun _ => ?_))
      | exact ih0 _ _ _
      | exact labels_Lexer_Lex.mono _ _ _
      | exact LeO.none _
      | refine LeO.ite ?_ ?_
      | refine LeO.bind ?_ (fun _ => ?_)
set_option maxHeartbeats 8000000 in
set_option maxRecDepth 100000 in
theorem impl_LabelLex.calls (k : Nat) (a0 : ByteArray) (r : List (S25)) (w : World) (h : impl_LabelLex.f k a0 = some r) :
    Calls Try.prog 4 #[.string a0] w fun e w' => ∃ v0_ : Value, e = .returned (v0_) ∧ Kd.R k25 25 w' w.heap.size (fun _ => True) v0_ r ∧ Below w.heap.size w w' := by
  have hu25 := Try.underlying25
  have HB := Aside0.mk (Below.refl w.heap.size w)
  have H : ((labels_ZzLexer.f a0).bind fun bt157 => (impl_LabelLex.l0 k ([] : List (S25)) bt157.1 bt157.2)) = some r := h
  clear h
  replace H := Option.bind_eq_some_iff.mp H
  obtain ⟨⟨t157, t158⟩, A20, H⟩ := H
  replace H : (impl_LabelLex.l0 k ([] : List (S25)) t157 t158) = some r := H
  have A2 := Aside0.mk A20
  clear A20
  have H' := Aside0.mk H
  clear H
  go_enter Try.func4, Try.ntmps4
  go_wp2_with (first | ((with_reducible refine gate_callee (f := 6) rfl ?_); refine goesL_ (some 8) rfl rfl Try.func6 (by kernel_rfl) rfl #[.string a0] rfl (by (try simp only [List.map_toArray, List.map_cons, List.map_nil]); first | done | rfl | (simp only [List.length_drop, List.length_take]; rfl)) ?_; (with_reducible refine (labels_ZzLexer.calls a0 t157 t158 w _ ?side1 A2.out).mono ?_); (case side1 => repeat (first | (with_reducible first | exact HB.out | apply below_alloc | apply pw_below_drewN | apply below_drew1) | exact HB.out)); rintro e w3 ⟨g159, rfl, hi, hb, hb2⟩; refine ⟨_, rfl, ?_⟩; have n0_ := Aside0.mk (hb); have n1_ := Aside0.mk (hi); clear HB; have HB := n0_; have HI159 := n1_; clear n0_ n1_; (try clear hb); (try clear hb2); (try clear hk); (try clear hi)))
  go_loopg [4] k (fun kq v4 w' => ∃ (x4_1 : List (S25)) (x160000_1 : ByteArray) (x160001_1 : Int), Aside0 (impl_LabelLex.l0 kq x4_1 x160000_1 x160001_1 = some r) ∧ Aside0 (kq ≤ k) ∧ Aside0 (Kd.R k25 25 w' w.heap.size (fun _ => True) v4 x4_1) ∧ Aside0 (IsS35 w w' g159 x160000_1 x160001_1) ∧ Aside0 (Below w.heap.size w w'))
  case atStart => exact ⟨(([] : List (S25))), (t157), (t158), H', ⟨Nat.le_refl _⟩, ⟨by first | exact Kd.R_nil _ _ _ _ _ | exact Kd.N_nil _ _ _ _ _ | exact Kd.V_nil _ _ _ _ _ | exact Kd.Q_nil _ _ _ _ _ | exact Kd.S_nil _ _ _ _ _⟩, ⟨by repeat (first | (with_reducible first | exact HI159.out | apply IsS35.alloc | apply IsS35.drewN | apply IsS35.drew | apply IsS35.set_0 | apply IsS35.set_1) | exact HI159.out)⟩, ⟨by repeat (first | (with_reducible first | exact HB.out | apply below_alloc | apply pw_below_drewN | apply below_drew1 | refine below_set ?_ (IsS35.ge HI159.out)) | exact HB.out)⟩⟩
  case round =>
    clear H'
    try clear p2
    obtain ⟨x4_1, x160000_1, x160001_1, HA, HK1, HO_4, HI159, HB⟩ := hrel
    cases gk with
    | zero => exact absurd HA.out (by simp [impl_LabelLex.l0])
    | succ k1 =>
      have H := HA.out
      clear HA
      simp only [impl_LabelLex.l0] at H
      replace H := Option.bind_eq_some_iff.mp H
      obtain ⟨⟨t160, t161, t162, t163⟩, A40, H⟩ := H
      replace H : (if x4_1.length < 5864062014805 then ((some (x4_1 ++ [(⟨t160, t161⟩ : S25)] : List (S25))).bind fun y164 => (if t160 = 1 then (some y164) else (if t160 = 0 then (some y164) else (impl_LabelLex.l0 k1 y164 t162 t163)))) else (none)) = some r := H
      have A4 := Aside0.mk A40
      clear A40
      by_cases c5 : x4_1.length < 5864062014805
      · rw [if_pos c5] at H
        have LMc5 := Aside0.mk c5
        clear c5
        obtain ⟨y164, hy164⟩ : ∃ y_ : List (S25), y_ = (x4_1 ++ [(⟨t160, t161⟩ : S25)]) := ⟨_, rfl⟩
        replace H : (if t160 = 1 then (some y164) else (if t160 = 0 then (some y164) else (impl_LabelLex.l0 k1 y164 t162 t163))) = some r := by first | (rw [hy164]; with_reducible exact H) | (have H2_ := (Option.bind_some _ _).symm.trans H; rw [hy164]; with_reducible exact H2_) | (have H2_ := (Option.bind_some _ _).symm.trans H; with_reducible exact H2_) | with_reducible exact H | (rw [hy164]; exact H) | exact H
        have Ny164 := Aside0.mk hy164
        clear hy164
        by_cases c6 : t160 = 1
        · rw [if_pos c6] at H
          have c6b0 : (t160 == 1) = true := beq_iff_eq.mpr c6
          have c6b1 : (t160 != 1) = false := bne_eq_false_iff_eq.mpr c6
          clear c6
          obtain rfl := Option.some.inj H
          go_wp2_with (first | ((with_reducible refine gate_callee (f := 7) rfl ?_); refine goesL_ (some 11) rfl rfl Try.func7 (by kernel_rfl) rfl #[.pointer (some ⟨g159, 0, none⟩)] rfl (by (try simp only [List.map_toArray, List.map_cons, List.map_nil]); first | done | rfl | (simp only [List.length_drop, List.length_take]; rfl)) ?_; (with_reducible refine (labels_Lexer_Lex.calls k1 g159 x160000_1 x160001_1 t160 t161 t162 t163 w _ ?side1 ?side2 A4.out).mono ?_); (case side1 => repeat (first | (with_reducible first | exact HI159.out | apply IsS35.alloc | apply IsS35.drewN | apply IsS35.drew | apply IsS35.set_0 | apply IsS35.set_1) | exact HI159.out)); (case side2 => repeat (first | (with_reducible first | exact HB.out | apply below_alloc | apply pw_below_drewN | apply below_drew1 | refine below_set ?_ (IsS35.ge HI159.out)) | exact HB.out)); rintro e w7 ⟨rfl, hi, hb, hk⟩; refine ⟨_, rfl, ?_⟩; have n0_ := Aside0.mk (Kd.R_mono (Kd.R_keep (IsS35.apart (show IsS35 w _ g159 x160000_1 x160001_1 from by repeat (first | (with_reducible first | exact HI159.out | apply IsS35.alloc | apply IsS35.drewN | apply IsS35.drew | apply IsS35.set_0 | apply IsS35.set_1) | exact HI159.out)) (by (with_reducible repeat (first | apply Kd.R_alloc | apply Kd.R_drewN | apply Kd.R_drew)); exact HO_4.out) (by decide)) hk (fun _ h => h.2)) (fun _ h => h.1)); have n1_ := Aside0.mk (hb); have n2_ := Aside0.mk (hi); clear HO_4; clear HB; clear HI159; have HO_4 := n0_; have HB := n1_; have HI159 := n2_; clear n0_ n1_ n2_; (try clear hb); (try clear hb2); (try clear hk); (try clear hi)) | ((with_reducible refine gate_builtin (b := .append) (xs := #[.tmp 14, .tmp 18]) rfl ?_); at_builtin; refine Kd.R_append k25 (w0 := w) w.heap.size rfl (.tmp 14) (.tmp 18) 22 25 (.agg #[(.int .i64 0), (.string ⟨#[]⟩)]) 24 rfl Try.underlying22 info25 rfl (by decide) (by omega) u4 x4_1 (⟨t160, t161⟩ : S25) [.int .i64 t160, .string t161] (fun _ => True) (fun _ => False) rfl rfl ?aP (fun _ hk => hk.elim) ?aF ?aO ?aB ?aS ?aL ?_; (case aP => exact k25_mkM _ _ _ (⟨t160, t161⟩ : S25)); (case aB => exact (by repeat (first | (with_reducible first | exact HB.out | apply below_alloc | apply pw_below_drewN | apply below_drew1 | refine below_set ?_ (IsS35.ge HI159.out)) | exact HB.out))); (case aF => exact (fun _ _ => trivial)); (case aO => exact (by (with_reducible repeat (first | apply Kd.R_alloc | apply Kd.R_drewN | apply Kd.R_drew)); exact HO_4.out)); (case aS => exact (below_size (by repeat (first | (with_reducible first | exact HB.out | apply below_alloc | apply pw_below_drewN | apply below_drew1 | refine below_set ?_ (IsS35.ge HI159.out)) | exact HB.out)))); (case aL => have := LMc5.out; omega); intro v165 w8 ho hb hg hat; rw [← Ny164.out] at ho; have n0_ := Aside0.mk (IsS35.grown (by repeat (first | (with_reducible first | exact HI159.out | apply IsS35.alloc | apply IsS35.drewN | apply IsS35.drew | apply IsS35.set_0 | apply IsS35.set_1) | exact HI159.out)) hg (IsS35.own_ne HI159.out HO_4.out (by decide))); have n1_ := Aside0.mk (hb); have n2_ := Aside0.mk (ho); clear HI159; clear HB; clear HO_4; have HI159 := n0_; have HB := n1_; have HO166 := n2_; clear n0_ n1_ n2_; clear ho hb hg hat))
          go_ret
          exact ⟨_, by first | rfl | (simp [errW_none, errW_some] <;> rfl) | (simp [*, errW_none, errW_some] <;> rfl), by (with_reducible repeat (first | apply Kd.R_alloc | apply Kd.R_drewN | apply Kd.R_drew)); exact HO166.out, by repeat (first | (with_reducible first | exact HB.out | apply below_alloc | apply pw_below_drewN | apply below_drew1 | refine below_set ?_ (IsS35.ge HI159.out)) | exact HB.out)⟩
        · rw [if_neg c6] at H
          have c6b0 : (t160 == 1) = false := beq_eq_false_iff_ne.mpr c6
          have c6b1 : (t160 != 1) = true := bne_iff_ne.mpr c6
          by_cases c9 : t160 = 0
          · rw [if_pos c9] at H
            have c9b0 : (t160 == 0) = true := beq_iff_eq.mpr c9
            have c9b1 : (t160 != 0) = false := bne_eq_false_iff_eq.mpr c9
            clear c9
            obtain rfl := Option.some.inj H
            go_wp2_with (first | ((with_reducible refine gate_callee (f := 7) rfl ?_); refine goesL_ (some 11) rfl rfl Try.func7 (by kernel_rfl) rfl #[.pointer (some ⟨g159, 0, none⟩)] rfl (by (try simp only [List.map_toArray, List.map_cons, List.map_nil]); first | done | rfl | (simp only [List.length_drop, List.length_take]; rfl)) ?_; (with_reducible refine (labels_Lexer_Lex.calls k1 g159 x160000_1 x160001_1 t160 t161 t162 t163 w _ ?side1 ?side2 A4.out).mono ?_); (case side1 => repeat (first | (with_reducible first | exact HI159.out | apply IsS35.alloc | apply IsS35.drewN | apply IsS35.drew | apply IsS35.set_0 | apply IsS35.set_1) | exact HI159.out)); (case side2 => repeat (first | (with_reducible first | exact HB.out | apply below_alloc | apply pw_below_drewN | apply below_drew1 | refine below_set ?_ (IsS35.ge HI159.out)) | exact HB.out)); rintro e w10 ⟨rfl, hi, hb, hk⟩; refine ⟨_, rfl, ?_⟩; have n0_ := Aside0.mk (Kd.R_mono (Kd.R_keep (IsS35.apart (show IsS35 w _ g159 x160000_1 x160001_1 from by repeat (first | (with_reducible first | exact HI159.out | apply IsS35.alloc | apply IsS35.drewN | apply IsS35.drew | apply IsS35.set_0 | apply IsS35.set_1) | exact HI159.out)) (by (with_reducible repeat (first | apply Kd.R_alloc | apply Kd.R_drewN | apply Kd.R_drew)); exact HO_4.out) (by decide)) hk (fun _ h => h.2)) (fun _ h => h.1)); have n1_ := Aside0.mk (hb); have n2_ := Aside0.mk (hi); clear HO_4; clear HB; clear HI159; have HO_4 := n0_; have HB := n1_; have HI159 := n2_; clear n0_ n1_ n2_; (try clear hb); (try clear hb2); (try clear hk); (try clear hi)) | ((with_reducible refine gate_builtin (b := .append) (xs := #[.tmp 14, .tmp 18]) rfl ?_); at_builtin; refine Kd.R_append k25 (w0 := w) w.heap.size rfl (.tmp 14) (.tmp 18) 22 25 (.agg #[(.int .i64 0), (.string ⟨#[]⟩)]) 24 rfl Try.underlying22 info25 rfl (by decide) (by omega) u4 x4_1 (⟨t160, t161⟩ : S25) [.int .i64 t160, .string t161] (fun _ => True) (fun _ => False) rfl rfl ?aP (fun _ hk => hk.elim) ?aF ?aO ?aB ?aS ?aL ?_; (case aP => exact k25_mkM _ _ _ (⟨t160, t161⟩ : S25)); (case aB => exact (by repeat (first | (with_reducible first | exact HB.out | apply below_alloc | apply pw_below_drewN | apply below_drew1 | refine below_set ?_ (IsS35.ge HI159.out)) | exact HB.out))); (case aF => exact (fun _ _ => trivial)); (case aO => exact (by (with_reducible repeat (first | apply Kd.R_alloc | apply Kd.R_drewN | apply Kd.R_drew)); exact HO_4.out)); (case aS => exact (below_size (by repeat (first | (with_reducible first | exact HB.out | apply below_alloc | apply pw_below_drewN | apply below_drew1 | refine below_set ?_ (IsS35.ge HI159.out)) | exact HB.out)))); (case aL => have := LMc5.out; omega); intro v165 w11 ho hb hg hat; rw [← Ny164.out] at ho; have n0_ := Aside0.mk (IsS35.grown (by repeat (first | (with_reducible first | exact HI159.out | apply IsS35.alloc | apply IsS35.drewN | apply IsS35.drew | apply IsS35.set_0 | apply IsS35.set_1) | exact HI159.out)) hg (IsS35.own_ne HI159.out HO_4.out (by decide))); have n1_ := Aside0.mk (hb); have n2_ := Aside0.mk (ho); clear HI159; clear HB; clear HO_4; have HI159 := n0_; have HB := n1_; have HO166 := n2_; clear n0_ n1_ n2_; clear ho hb hg hat))
            go_ret
            exact ⟨_, by first | rfl | (simp [errW_none, errW_some] <;> rfl) | (simp [*, errW_none, errW_some] <;> rfl), by (with_reducible repeat (first | apply Kd.R_alloc | apply Kd.R_drewN | apply Kd.R_drew)); exact HO166.out, by repeat (first | (with_reducible first | exact HB.out | apply below_alloc | apply pw_below_drewN | apply below_drew1 | refine below_set ?_ (IsS35.ge HI159.out)) | exact HB.out)⟩
          · rw [if_neg c9] at H
            have c9b0 : (t160 == 0) = false := beq_eq_false_iff_ne.mpr c9
            have c9b1 : (t160 != 0) = true := bne_iff_ne.mpr c9
            have H' := Aside0.mk H
            clear H
            go_wp2_with (first | ((with_reducible refine gate_callee (f := 7) rfl ?_); refine goesL_ (some 11) rfl rfl Try.func7 (by kernel_rfl) rfl #[.pointer (some ⟨g159, 0, none⟩)] rfl (by (try simp only [List.map_toArray, List.map_cons, List.map_nil]); first | done | rfl | (simp only [List.length_drop, List.length_take]; rfl)) ?_; (with_reducible refine (labels_Lexer_Lex.calls k1 g159 x160000_1 x160001_1 t160 t161 t162 t163 w _ ?side1 ?side2 A4.out).mono ?_); (case side1 => repeat (first | (with_reducible first | exact HI159.out | apply IsS35.alloc | apply IsS35.drewN | apply IsS35.drew | apply IsS35.set_0 | apply IsS35.set_1) | exact HI159.out)); (case side2 => repeat (first | (with_reducible first | exact HB.out | apply below_alloc | apply pw_below_drewN | apply below_drew1 | refine below_set ?_ (IsS35.ge HI159.out)) | exact HB.out)); rintro e w12 ⟨rfl, hi, hb, hk⟩; refine ⟨_, rfl, ?_⟩; have n0_ := Aside0.mk (Kd.R_mono (Kd.R_keep (IsS35.apart (show IsS35 w _ g159 x160000_1 x160001_1 from by repeat (first | (with_reducible first | exact HI159.out | apply IsS35.alloc | apply IsS35.drewN | apply IsS35.drew | apply IsS35.set_0 | apply IsS35.set_1) | exact HI159.out)) (by (with_reducible repeat (first | apply Kd.R_alloc | apply Kd.R_drewN | apply Kd.R_drew)); exact HO_4.out) (by decide)) hk (fun _ h => h.2)) (fun _ h => h.1)); have n1_ := Aside0.mk (hb); have n2_ := Aside0.mk (hi); clear HO_4; clear HB; clear HI159; have HO_4 := n0_; have HB := n1_; have HI159 := n2_; clear n0_ n1_ n2_; (try clear hb); (try clear hb2); (try clear hk); (try clear hi)) | ((with_reducible refine gate_builtin (b := .append) (xs := #[.tmp 14, .tmp 18]) rfl ?_); at_builtin; refine Kd.R_append k25 (w0 := w) w.heap.size rfl (.tmp 14) (.tmp 18) 22 25 (.agg #[(.int .i64 0), (.string ⟨#[]⟩)]) 24 rfl Try.underlying22 info25 rfl (by decide) (by omega) u4 x4_1 (⟨t160, t161⟩ : S25) [.int .i64 t160, .string t161] (fun _ => True) (fun _ => False) rfl rfl ?aP (fun _ hk => hk.elim) ?aF ?aO ?aB ?aS ?aL ?_; (case aP => exact k25_mkM _ _ _ (⟨t160, t161⟩ : S25)); (case aB => exact (by repeat (first | (with_reducible first | exact HB.out | apply below_alloc | apply pw_below_drewN | apply below_drew1 | refine below_set ?_ (IsS35.ge HI159.out)) | exact HB.out))); (case aF => exact (fun _ _ => trivial)); (case aO => exact (by (with_reducible repeat (first | apply Kd.R_alloc | apply Kd.R_drewN | apply Kd.R_drew)); exact HO_4.out)); (case aS => exact (below_size (by repeat (first | (with_reducible first | exact HB.out | apply below_alloc | apply pw_below_drewN | apply below_drew1 | refine below_set ?_ (IsS35.ge HI159.out)) | exact HB.out)))); (case aL => have := LMc5.out; omega); intro v165 w13 ho hb hg hat; rw [← Ny164.out] at ho; have n0_ := Aside0.mk (IsS35.grown (by repeat (first | (with_reducible first | exact HI159.out | apply IsS35.alloc | apply IsS35.drewN | apply IsS35.drew | apply IsS35.set_0 | apply IsS35.set_1) | exact HI159.out)) hg (IsS35.own_ne HI159.out HO_4.out (by decide))); have n1_ := Aside0.mk (hb); have n2_ := Aside0.mk (ho); clear HI159; clear HB; clear HO_4; have HI159 := n0_; have HB := n1_; have HO166 := n2_; clear n0_ n1_ n2_; clear ho hb hg hat))
            go_roundg k1
            case measure => have := HK1.out; omega
            case rel => exact ⟨(y164), (t162), (t163), H', ⟨by have := HK1.out; omega⟩, ⟨by (with_reducible repeat (first | apply Kd.R_alloc | apply Kd.R_drewN | apply Kd.R_drew)); exact HO166.out⟩, ⟨by repeat (first | (with_reducible first | exact HI159.out | apply IsS35.alloc | apply IsS35.drewN | apply IsS35.drew | apply IsS35.set_0 | apply IsS35.set_1) | exact HI159.out)⟩, ⟨by repeat (first | (with_reducible first | exact HB.out | apply below_alloc | apply pw_below_drewN | apply below_drew1 | refine below_set ?_ (IsS35.ge HI159.out)) | exact HB.out)⟩⟩
      · rw [if_neg c5] at H
        exact absurd H (by simp)

/-! ### spec_blank: function 8 -/
def spec_blank.f (a0 : Int) : Option (Bool) := if a0 = 32 then (some true) else (if a0 = 9 then (some true) else (if a0 = 13 then (some true) else (some (a0 == 10))))
set_option maxHeartbeats 8000000 in
set_option maxRecDepth 100000 in
theorem spec_blank.calls (a0 : Int) (r : Bool) (w : World) (h : spec_blank.f a0 = some r) :
    Calls Try.prog 8 #[.int .u8 a0] w fun e w' => e = .returned (.bool r) ∧ Drawn0 w w' := by
  have H : (if a0 = 32 then (some true) else (if a0 = 9 then (some true) else (if a0 = 13 then (some true) else (some (a0 == 10))))) = some r := h
  clear h
  by_cases c2 : a0 = 32
  · rw [if_pos c2] at H
    have c2b0 : (a0 == 32) = true := beq_iff_eq.mpr c2
    have c2b1 : (a0 != 32) = false := bne_eq_false_iff_eq.mpr c2
    clear c2
    obtain rfl := Option.some.inj H
    go_enter Try.func8, Try.ntmps8
    go_wp2
    go_ret
    exact ⟨by first | rfl | (simp; done) | (simp [*]; done), by repeat (first | exact Drawn0.refl _ | apply Drawn0.step)⟩
  · rw [if_neg c2] at H
    have c2b0 : (a0 == 32) = false := beq_eq_false_iff_ne.mpr c2
    have c2b1 : (a0 != 32) = true := bne_iff_ne.mpr c2
    by_cases c3 : a0 = 9
    · rw [if_pos c3] at H
      have c3b0 : (a0 == 9) = true := beq_iff_eq.mpr c3
      have c3b1 : (a0 != 9) = false := bne_eq_false_iff_eq.mpr c3
      clear c3
      obtain rfl := Option.some.inj H
      go_enter Try.func8, Try.ntmps8
      go_wp2
      go_ret
      exact ⟨by first | rfl | (simp; done) | (simp [*]; done), by repeat (first | exact Drawn0.refl _ | apply Drawn0.step)⟩
    · rw [if_neg c3] at H
      have c3b0 : (a0 == 9) = false := beq_eq_false_iff_ne.mpr c3
      have c3b1 : (a0 != 9) = true := bne_iff_ne.mpr c3
      by_cases c4 : a0 = 13
      · rw [if_pos c4] at H
        have c4b0 : (a0 == 13) = true := beq_iff_eq.mpr c4
        have c4b1 : (a0 != 13) = false := bne_eq_false_iff_eq.mpr c4
        clear c4
        obtain rfl := Option.some.inj H
        go_enter Try.func8, Try.ntmps8
        go_wp2
        go_ret
        exact ⟨by first | rfl | (simp; done) | (simp [*]; done), by repeat (first | exact Drawn0.refl _ | apply Drawn0.step)⟩
      · rw [if_neg c4] at H
        have c4b0 : (a0 == 13) = false := beq_eq_false_iff_ne.mpr c4
        have c4b1 : (a0 != 13) = true := bne_iff_ne.mpr c4
        obtain rfl := Option.some.inj H
        go_enter Try.func8, Try.ntmps8
        go_wp2
        go_ret
        exact ⟨by first | rfl | (simp; done) | (simp [*]; done), by repeat (first | exact Drawn0.refl _ | apply Drawn0.step)⟩

/-! ### spec_keyIn_string: function 17 -/
def spec_keyIn_string.l0 : Nat → List ByteArray → ByteArray → Int → Option (Bool)
  | 0, _, _, _ => none
  | k + 1, x0, x1, x5 => if x5 < (x0.length : Int) then (if 0 ≤ x5 then (if (rdOf ByteArray.empty x0 x5).toList = x1.toList then (some true) else (spec_keyIn_string.l0 k x0 x1 (wrap64 (x5 + 1)))) else (none)) else (some false)
def spec_keyIn_string.f (k : Nat) (l0 : List ByteArray) (a1 : ByteArray) : Option (Bool) := spec_keyIn_string.l0 k l0 a1 0
theorem spec_keyIn_string.mono_l : ∀ k, (∀ y0 y1 y2, LeO (spec_keyIn_string.l0 k y0 y1 y2) (spec_keyIn_string.l0 (k + 1) y0 y1 y2))
  | 0 => fun _ _ _ r h => by simp [spec_keyIn_string.l0] at h
  | k + 1 => by
    have ih0 := spec_keyIn_string.mono_l k
    · intro y0 y1 y2
      unfold spec_keyIn_string.l0
      repeat' first
      | (with_reducible exact ih0 _ _ _)
      | (with_reducible exact LeO.refl _)
      | (with_reducible exact LeO.none _)
      | (with_reducible refine LeO.ite ?_ ?_)
      | (with_reducible refine LeO.bind ?_ (fun _ => ?_))
      | exact ih0 _ _ _
      | exact LeO.none _
      | refine LeO.ite ?_ ?_
      | refine LeO.bind ?_ (fun _ => ?_)
theorem spec_keyIn_string.mono : ∀ a0 a1 k, LeO (spec_keyIn_string.f k a0 a1) (spec_keyIn_string.f (k + 1) a0 a1) := by
  intro a0 a1 k
  have ih0 := spec_keyIn_string.mono_l k
  unfold spec_keyIn_string.f
  repeat' first
      | (with_reducible exact ih0 _ _ _)
      | (with_reducible exact LeO.refl _)
      | (with_reducible exact LeO.none _)
      | (with_reducible refine LeO.ite ?_ ?_)
      | (with_reducible refine LeO.bind ?_ (fun _ => ?_))
      | exact ih0 _ _ _
      | exact LeO.none _
      | refine LeO.ite ?_ ?_
      | refine LeO.bind ?_ (fun _ => ?_)
set_option maxHeartbeats 8000000 in
set_option maxRecDepth 100000 in
theorem spec_keyIn_string.calls (k : Nat) (A0 : Option Addr) (c0 : Nat) (l0 : List ByteArray) (a1 : ByteArray) (r : Bool) (w : World) (hr0 : Kd.C Kd.string w A0 l0.length l0) (hc0 : l0.length ≤ c0) (h : spec_keyIn_string.f k l0 a1 = some r) :
    Calls Try.prog 17 #[.slice A0 l0.length c0, .string a1] w fun e w' => e = .returned (.bool r) ∧ Drawn0 w w' := by
  have HR0 := Aside0.mk hr0
  have HC0 := Aside0.mk hc0
  clear hr0 hc0
  have H : (spec_keyIn_string.l0 k l0 a1 0) = some r := h
  clear h
  have H' := Aside0.mk H
  clear H
  go_enter Try.func17, Try.ntmps17
  go_wp2
  go_loopg [5] k (fun kq v5 w' => ∃ (x5_1 : Int), v5 = .int .i64 x5_1 ∧ Aside0 (spec_keyIn_string.l0 kq l0 a1 x5_1 = some r) ∧ Aside0 (kq ≤ k) ∧ Drawn0 w w')
  case atStart => exact ⟨(0), (by first | rfl | (simp; done) | (simp [*]; done)), H', ⟨Nat.le_refl _⟩, by repeat (first | exact Drawn0.refl _ | apply Drawn0.step)⟩
  case round =>
    clear H'
    try clear c1
    try clear p2
    obtain ⟨x5_1, rfl, HA, HK1, ⟨m1, rfl⟩⟩ := hrel
    cases gk with
    | zero => exact absurd HA.out (by simp [spec_keyIn_string.l0])
    | succ k1 =>
      have H := HA.out
      clear HA
      simp only [spec_keyIn_string.l0] at H
      by_cases c3 : x5_1 < (l0.length : Int)
      · rw [if_pos c3] at H
        have c3b0 : decide (x5_1 < (l0.length : Int)) = true := decide_eq_true c3
        clear c3
        by_cases c4 : 0 ≤ x5_1
        · rw [if_pos c4] at H
          have c4b0 : decide (0 ≤ x5_1) = true := decide_eq_true c4
          clear c4
          by_cases c5 : (rdOf ByteArray.empty l0 x5_1).toList = a1.toList
          · rw [if_pos c5] at H
            have c5b0 : ((rdOf ByteArray.empty l0 x5_1).toList == a1.toList) = true := beq_iff_eq.mpr c5
            have c5b1 : ((rdOf ByteArray.empty l0 x5_1).toList != a1.toList) = false := bne_eq_false_iff_eq.mpr c5
            clear c5
            obtain rfl := Option.some.inj H
            have p167 : 0 ≤ (x5_1 : Int) := of_decide_eq_true (by first | (with_reducible assumption) | assumption)
            have q167 : x5_1 < (l0.length : Int) := of_decide_eq_true (by first | (with_reducible assumption) | assumption)
            obtain ⟨ad167, e167, hx167_0⟩ := Kd.at_string HR0.out x5_1 p167 q167
            cases e167
            replace p167 := eq_true p167
            replace q167 := eq_true q167
            go_wp2
            go_ret
            exact ⟨by first | rfl | (simp; done) | (simp [*]; done), by repeat (first | exact Drawn0.refl _ | apply Drawn0.step)⟩
          · rw [if_neg c5] at H
            have c5b0 : ((rdOf ByteArray.empty l0 x5_1).toList == a1.toList) = false := beq_eq_false_iff_ne.mpr c5
            have c5b1 : ((rdOf ByteArray.empty l0 x5_1).toList != a1.toList) = true := bne_iff_ne.mpr c5
            have H' := Aside0.mk H
            clear H
            have p167 : 0 ≤ (x5_1 : Int) := of_decide_eq_true (by first | (with_reducible assumption) | assumption)
            have q167 : x5_1 < (l0.length : Int) := of_decide_eq_true (by first | (with_reducible assumption) | assumption)
            obtain ⟨ad167, e167, hx167_0⟩ := Kd.at_string HR0.out x5_1 p167 q167
            cases e167
            replace p167 := eq_true p167
            replace q167 := eq_true q167
            go_wp2
            go_roundg k1
            case measure => have := HK1.out; omega
            case rel => exact ⟨(wrap64 (x5_1 + 1)), (by first | rfl | (simp; done) | (simp [*]; done)), H', ⟨by have := HK1.out; omega⟩, by repeat (first | exact Drawn0.refl _ | apply Drawn0.step)⟩
        · rw [if_neg c4] at H
          exact absurd H (by simp)
      · rw [if_neg c3] at H
        have c3b0 : decide (x5_1 < (l0.length : Int)) = false := decide_eq_false c3
        clear c3
        obtain rfl := Option.some.inj H
        go_wp2
        go_ret
        exact ⟨by first | rfl | (simp; done) | (simp [*]; done), by repeat (first | exact Drawn0.refl _ | apply Drawn0.step)⟩

/-! ### spec_sign: function 9 -/
def spec_sign.f (k : Nat) (a0 : Int) : Option (Bool) := (spec_keyIn_string.f k (([(⟨#[61]⟩ : ByteArray), (⟨#[33]⟩ : ByteArray), (⟨#[40]⟩ : ByteArray), (⟨#[41]⟩ : ByteArray), (⟨#[44]⟩ : ByteArray), (⟨#[60]⟩ : ByteArray), (⟨#[62]⟩ : ByteArray)] : List ByteArray)) (strOfNums (([a0] : List Int)))).bind fun t174 => (some t174)
theorem spec_sign.mono : ∀ a0 k, LeO (spec_sign.f k a0) (spec_sign.f (k + 1) a0) := by
  intro a0 k
  unfold spec_sign.f
  repeat' first
      | (with_reducible exact spec_keyIn_string.mono _ _ _)
      | (with_reducible exact LeO.refl _)
      | (with_reducible exact LeO.none _)
      | (with_reducible refine LeO.ite ?_ ?_)
      | (with_reducible refine LeO.bind ?_ (fun _ => ?_))
      | exact spec_keyIn_string.mono _ _ _
      | exact LeO.none _
      | refine LeO.ite ?_ ?_
      | refine LeO.bind ?_ (fun _ => ?_)
set_option maxHeartbeats 8000000 in
set_option maxRecDepth 100000 in
theorem spec_sign.calls (k : Nat) (a0 : Int) (r : Bool) (w : World) (h : spec_sign.f k a0 = some r) :
    Calls Try.prog 9 #[.int .u8 a0] w fun e w' => e = .returned (.bool r) ∧ Below w.heap.size w w' := by
  have HB := Aside0.mk (Below.refl w.heap.size w)
  have H : ((spec_keyIn_string.f k (([(⟨#[61]⟩ : ByteArray), (⟨#[33]⟩ : ByteArray), (⟨#[40]⟩ : ByteArray), (⟨#[41]⟩ : ByteArray), (⟨#[44]⟩ : ByteArray), (⟨#[60]⟩ : ByteArray), (⟨#[62]⟩ : ByteArray)] : List ByteArray)) (strOfNums (([a0] : List Int)))).bind fun t174 => (some t174)) = some r := h
  clear h
  obtain ⟨y168, hy168⟩ : ∃ y_ : List ByteArray, y_ = (([(⟨#[61]⟩ : ByteArray), (⟨#[33]⟩ : ByteArray), (⟨#[40]⟩ : ByteArray), (⟨#[41]⟩ : ByteArray), (⟨#[44]⟩ : ByteArray), (⟨#[60]⟩ : ByteArray), (⟨#[62]⟩ : ByteArray)] : List ByteArray)) := ⟨_, rfl⟩
  replace H : ((spec_keyIn_string.f k y168 (strOfNums (([a0] : List Int)))).bind fun t174 => (some t174)) = some r := by first | (rw [hy168]; with_reducible exact H) | (have H2_ := (Option.bind_some _ _).symm.trans H; rw [hy168]; with_reducible exact H2_) | (have H2_ := (Option.bind_some _ _).symm.trans H; with_reducible exact H2_) | with_reducible exact H | (rw [hy168]; exact H) | exact H
  have Ny168 := Aside0.mk hy168
  clear hy168
  obtain ⟨y171, hy171⟩ : ∃ y_ : List Int, y_ = (([a0] : List Int)) := ⟨_, rfl⟩
  replace H : ((spec_keyIn_string.f k y168 (strOfNums y171)).bind fun t174 => (some t174)) = some r := by first | (rw [hy171]; with_reducible exact H) | (have H2_ := (Option.bind_some _ _).symm.trans H; rw [hy171]; with_reducible exact H2_) | (have H2_ := (Option.bind_some _ _).symm.trans H; with_reducible exact H2_) | with_reducible exact H | (rw [hy171]; exact H) | exact H
  have Ny171 := Aside0.mk hy171
  clear hy171
  replace H := Option.bind_eq_some_iff.mp H
  obtain ⟨t174, A20, H⟩ := H
  replace H : (some t174) = some r := H
  have A2 := Aside0.mk A20
  clear A20
  obtain rfl := Option.some.inj H
  go_enter Try.func9, Try.ntmps9
  go_wp2_with (first | ((with_reducible refine gate_dst (N := 3) rfl ?_); refine Kd.R_lit Kd.string _ 9 ?hg (N := 3) ?hd (xs := ([(⟨#[61]⟩ : ByteArray), (⟨#[33]⟩ : ByteArray), (⟨#[40]⟩ : ByteArray), (⟨#[41]⟩ : ByteArray), (⟨#[44]⟩ : ByteArray), (⟨#[60]⟩ : ByteArray), (⟨#[62]⟩ : ByteArray)] : List ByteArray)) (inner := [.string (⟨#[61]⟩ : ByteArray), .string (⟨#[33]⟩ : ByteArray), .string (⟨#[40]⟩ : ByteArray), .string (⟨#[41]⟩ : ByteArray), .string (⟨#[44]⟩ : ByteArray), .string (⟨#[60]⟩ : ByteArray), .string (⟨#[62]⟩ : ByteArray)]) (ok := fun _ => True) (okp := fun _ => True) ?hr ?hp (fun _ hk => hk) trivial (Below.refl _ _) (Nat.le_refl _) (by simp) ?_; (case hd => rfl); (case hg => rfl); (case hr => first | (go_simp; done) | (go_simp; rfl)); (case hp => exact (Reps.one (show Kd.M Kd.string _ _ _ (⟨#[61]⟩ : ByteArray) [.string (⟨#[61]⟩ : ByteArray)] from rfl) (Reps.one (show Kd.M Kd.string _ _ _ (⟨#[33]⟩ : ByteArray) [.string (⟨#[33]⟩ : ByteArray)] from rfl) (Reps.one (show Kd.M Kd.string _ _ _ (⟨#[40]⟩ : ByteArray) [.string (⟨#[40]⟩ : ByteArray)] from rfl) (Reps.one (show Kd.M Kd.string _ _ _ (⟨#[41]⟩ : ByteArray) [.string (⟨#[41]⟩ : ByteArray)] from rfl) (Reps.one (show Kd.M Kd.string _ _ _ (⟨#[44]⟩ : ByteArray) [.string (⟨#[44]⟩ : ByteArray)] from rfl) (Reps.one (show Kd.M Kd.string _ _ _ (⟨#[60]⟩ : ByteArray) [.string (⟨#[60]⟩ : ByteArray)] from rfl) (Reps.one (show Kd.M Kd.string _ _ _ (⟨#[62]⟩ : ByteArray) [.string (⟨#[62]⟩ : ByteArray)] from rfl) (Reps.none _ _))))))))); intro v169 w3 ho4 hb hg_ hnew_; clear hg_ hnew_; (first | rw [← Ny168.out] at ho4 | (simp only [Int.reduceToNat] at ho4; rw [← Ny168.out] at ho4)); have n0_ := Aside0.mk (Kd.R_lower ho4 (below_size (by repeat (first | (with_reducible first | exact HB.out | apply below_alloc | apply pw_below_drewN | apply below_drew1) | exact HB.out)))); have n1_ := Aside0.mk (below_step (by repeat (first | (with_reducible first | exact HB.out | apply below_alloc | apply pw_below_drewN | apply below_drew1) | exact HB.out)) hb); clear HB; have HO170 := n0_; have HB := n1_; clear n0_ n1_; clear hb ho4) | ((with_reducible refine gate_dst (N := 5) rfl ?_); refine Kd.R_lit (Kd.int .u8) _ 5 ?hg (N := 5) ?hd (xs := ([a0] : List Int)) (inner := [.int .u8 a0]) (ok := fun _ => True) (okp := fun _ => True) ?hr ?hp (fun _ hk => hk) trivial (Below.refl _ _) (Nat.le_refl _) (by simp) ?_; (case hd => rfl); (case hg => rfl); (case hr => first | (go_simp; done) | (go_simp; rfl)); (case hp => exact (Reps.one (show Kd.M (Kd.int .u8) _ _ _ a0 [.int .u8 a0] from rfl) (Reps.none _ _))); intro v172 w5 ho6 hb hg_ hnew_; clear hg_ hnew_; (first | rw [← Ny171.out] at ho6 | (simp only [Int.reduceToNat] at ho6; rw [← Ny171.out] at ho6)); have n0_ := Aside0.mk (Kd.R_below (by (with_reducible repeat (first | apply Kd.R_alloc | apply Kd.R_drewN | apply Kd.R_drew)); exact HO170.out) hb); have n1_ := Aside0.mk (Kd.R_lower ho6 (below_size (by repeat (first | (with_reducible first | exact HB.out | apply below_alloc | apply pw_below_drewN | apply below_drew1) | exact HB.out)))); have n2_ := Aside0.mk (below_step (by repeat (first | (with_reducible first | exact HB.out | apply below_alloc | apply pw_below_drewN | apply below_drew1) | exact HB.out)) hb); clear HO170; clear HB; have HO170 := n0_; have HO173 := n1_; have HB := n2_; clear n0_ n1_ n2_; clear hb ho6; have hcv7 := own_string (P := Try.prog) Try.underlying40 Try.underlying5 Try.underlying9 (Kd.own_of_R HO173.out); have hcv7d := (fun nd_ => own_string (P := Try.prog) Try.underlying40 Try.underlying5 Try.underlying9 (Kd.own_of_R (Kd.R_drewN HO173.out nd_))); obtain ⟨Ao8, co8, eo8⟩ := Kd.R_slice HO170.out; subst eo8) | ((with_reducible refine gate_callee (f := 17) rfl ?_); refine goesL_ (some 7) rfl rfl Try.func17 (by kernel_rfl) rfl #[.slice Ao8 y168.length co8, .string (strOfNums y171)] rfl (by (try simp only [List.map_toArray, List.map_cons, List.map_nil]); first | done | rfl | (simp only [List.length_drop, List.length_take]; rfl)) ?_; (with_reducible refine (spec_keyIn_string.calls k _ _ y168 (strOfNums y171) t174 _ ?side1 ?side2 A2.out).mono ?_); (case side1 => repeat (first | exact (Kd.R_reads' HO170.out).2.2 | (with_reducible refine Kd.C_alloc ?_ _) | (with_reducible refine Kd.C_drewN ?_ _) | (with_reducible refine Kd.C_drew ?_))); (case side2 => exact (Kd.R_reads' HO170.out).2.1); rintro e w' ⟨rfl, ⟨nd, rfl⟩⟩; refine ⟨_, rfl, ?_⟩))
  go_ret
  exact ⟨by first | rfl | (simp [errW_none, errW_some] <;> rfl) | (simp [*, errW_none, errW_some] <;> rfl) | (exfalso; contradiction), by repeat (first | (with_reducible first | exact HB.out | apply below_alloc | apply pw_below_drewN | apply below_drew1) | exact HB.out)⟩

/-! ### spec_pieceOf: function 10 -/
def spec_pieceOf.f (a0 : ByteArray) : Option (Int) := if a0.toList = ([41] : List UInt8) then (some 2) else (if a0.toList = ([44] : List UInt8) then (some 3) else (if a0.toList = ([33] : List UInt8) then (some 4) else (if a0.toList = ([61, 61] : List UInt8) then (some 5) else (if a0.toList = ([61] : List UInt8) then (some 6) else (if a0.toList = ([62] : List UInt8) then (some 7) else (if a0.toList = ([60] : List UInt8) then (some 10) else (if a0.toList = ([33, 61] : List UInt8) then (some 11) else (if a0.toList = ([40] : List UInt8) then (some 13) else (some 0)))))))))
set_option maxHeartbeats 8000000 in
set_option maxRecDepth 100000 in
theorem spec_pieceOf.calls (a0 : ByteArray) (r : Int) (w : World) (h : spec_pieceOf.f a0 = some r) :
    Calls Try.prog 10 #[.string a0] w fun e w' => e = .returned (.int .i64 r) ∧ Drawn0 w w' := by
  have H : (if a0.toList = ([41] : List UInt8) then (some 2) else (if a0.toList = ([44] : List UInt8) then (some 3) else (if a0.toList = ([33] : List UInt8) then (some 4) else (if a0.toList = ([61, 61] : List UInt8) then (some 5) else (if a0.toList = ([61] : List UInt8) then (some 6) else (if a0.toList = ([62] : List UInt8) then (some 7) else (if a0.toList = ([60] : List UInt8) then (some 10) else (if a0.toList = ([33, 61] : List UInt8) then (some 11) else (if a0.toList = ([40] : List UInt8) then (some 13) else (some 0)))))))))) = some r := h
  clear h
  by_cases c2 : a0.toList = ([41] : List UInt8)
  · rw [if_pos c2] at H
    have c2b0 : (a0.toList == ([41] : List UInt8)) = true := beq_iff_eq.mpr c2
    have c2b1 : (a0.toList != ([41] : List UInt8)) = false := bne_eq_false_iff_eq.mpr c2
    clear c2
    obtain rfl := Option.some.inj H
    go_enter Try.func10, Try.ntmps10
    go_wp2
    go_ret
    exact ⟨by first | rfl | (simp; done) | (simp [*]; done), by repeat (first | exact Drawn0.refl _ | apply Drawn0.step)⟩
  · rw [if_neg c2] at H
    have c2b0 : (a0.toList == ([41] : List UInt8)) = false := beq_eq_false_iff_ne.mpr c2
    have c2b1 : (a0.toList != ([41] : List UInt8)) = true := bne_iff_ne.mpr c2
    by_cases c3 : a0.toList = ([44] : List UInt8)
    · rw [if_pos c3] at H
      have c3b0 : (a0.toList == ([44] : List UInt8)) = true := beq_iff_eq.mpr c3
      have c3b1 : (a0.toList != ([44] : List UInt8)) = false := bne_eq_false_iff_eq.mpr c3
      clear c3
      obtain rfl := Option.some.inj H
      go_enter Try.func10, Try.ntmps10
      go_wp2
      go_ret
      exact ⟨by first | rfl | (simp; done) | (simp [*]; done), by repeat (first | exact Drawn0.refl _ | apply Drawn0.step)⟩
    · rw [if_neg c3] at H
      have c3b0 : (a0.toList == ([44] : List UInt8)) = false := beq_eq_false_iff_ne.mpr c3
      have c3b1 : (a0.toList != ([44] : List UInt8)) = true := bne_iff_ne.mpr c3
      by_cases c4 : a0.toList = ([33] : List UInt8)
      · rw [if_pos c4] at H
        have c4b0 : (a0.toList == ([33] : List UInt8)) = true := beq_iff_eq.mpr c4
        have c4b1 : (a0.toList != ([33] : List UInt8)) = false := bne_eq_false_iff_eq.mpr c4
        clear c4
        obtain rfl := Option.some.inj H
        go_enter Try.func10, Try.ntmps10
        go_wp2
        go_ret
        exact ⟨by first | rfl | (simp; done) | (simp [*]; done), by repeat (first | exact Drawn0.refl _ | apply Drawn0.step)⟩
      · rw [if_neg c4] at H
        have c4b0 : (a0.toList == ([33] : List UInt8)) = false := beq_eq_false_iff_ne.mpr c4
        have c4b1 : (a0.toList != ([33] : List UInt8)) = true := bne_iff_ne.mpr c4
        by_cases c5 : a0.toList = ([61, 61] : List UInt8)
        · rw [if_pos c5] at H
          have c5b0 : (a0.toList == ([61, 61] : List UInt8)) = true := beq_iff_eq.mpr c5
          have c5b1 : (a0.toList != ([61, 61] : List UInt8)) = false := bne_eq_false_iff_eq.mpr c5
          clear c5
          obtain rfl := Option.some.inj H
          go_enter Try.func10, Try.ntmps10
          go_wp2
          go_ret
          exact ⟨by first | rfl | (simp; done) | (simp [*]; done), by repeat (first | exact Drawn0.refl _ | apply Drawn0.step)⟩
        · rw [if_neg c5] at H
          have c5b0 : (a0.toList == ([61, 61] : List UInt8)) = false := beq_eq_false_iff_ne.mpr c5
          have c5b1 : (a0.toList != ([61, 61] : List UInt8)) = true := bne_iff_ne.mpr c5
          by_cases c6 : a0.toList = ([61] : List UInt8)
          · rw [if_pos c6] at H
            have c6b0 : (a0.toList == ([61] : List UInt8)) = true := beq_iff_eq.mpr c6
            have c6b1 : (a0.toList != ([61] : List UInt8)) = false := bne_eq_false_iff_eq.mpr c6
            clear c6
            obtain rfl := Option.some.inj H
            go_enter Try.func10, Try.ntmps10
            go_wp2
            go_ret
            exact ⟨by first | rfl | (simp; done) | (simp [*]; done), by repeat (first | exact Drawn0.refl _ | apply Drawn0.step)⟩
          · rw [if_neg c6] at H
            have c6b0 : (a0.toList == ([61] : List UInt8)) = false := beq_eq_false_iff_ne.mpr c6
            have c6b1 : (a0.toList != ([61] : List UInt8)) = true := bne_iff_ne.mpr c6
            by_cases c7 : a0.toList = ([62] : List UInt8)
            · rw [if_pos c7] at H
              have c7b0 : (a0.toList == ([62] : List UInt8)) = true := beq_iff_eq.mpr c7
              have c7b1 : (a0.toList != ([62] : List UInt8)) = false := bne_eq_false_iff_eq.mpr c7
              clear c7
              obtain rfl := Option.some.inj H
              go_enter Try.func10, Try.ntmps10
              go_wp2
              go_ret
              exact ⟨by first | rfl | (simp; done) | (simp [*]; done), by repeat (first | exact Drawn0.refl _ | apply Drawn0.step)⟩
            · rw [if_neg c7] at H
              have c7b0 : (a0.toList == ([62] : List UInt8)) = false := beq_eq_false_iff_ne.mpr c7
              have c7b1 : (a0.toList != ([62] : List UInt8)) = true := bne_iff_ne.mpr c7
              by_cases c8 : a0.toList = ([60] : List UInt8)
              · rw [if_pos c8] at H
                have c8b0 : (a0.toList == ([60] : List UInt8)) = true := beq_iff_eq.mpr c8
                have c8b1 : (a0.toList != ([60] : List UInt8)) = false := bne_eq_false_iff_eq.mpr c8
                clear c8
                obtain rfl := Option.some.inj H
                go_enter Try.func10, Try.ntmps10
                go_wp2
                go_ret
                exact ⟨by first | rfl | (simp; done) | (simp [*]; done), by repeat (first | exact Drawn0.refl _ | apply Drawn0.step)⟩
              · rw [if_neg c8] at H
                have c8b0 : (a0.toList == ([60] : List UInt8)) = false := beq_eq_false_iff_ne.mpr c8
                have c8b1 : (a0.toList != ([60] : List UInt8)) = true := bne_iff_ne.mpr c8
                by_cases c9 : a0.toList = ([33, 61] : List UInt8)
                · rw [if_pos c9] at H
                  have c9b0 : (a0.toList == ([33, 61] : List UInt8)) = true := beq_iff_eq.mpr c9
                  have c9b1 : (a0.toList != ([33, 61] : List UInt8)) = false := bne_eq_false_iff_eq.mpr c9
                  clear c9
                  obtain rfl := Option.some.inj H
                  go_enter Try.func10, Try.ntmps10
                  go_wp2
                  go_ret
                  exact ⟨by first | rfl | (simp; done) | (simp [*]; done), by repeat (first | exact Drawn0.refl _ | apply Drawn0.step)⟩
                · rw [if_neg c9] at H
                  have c9b0 : (a0.toList == ([33, 61] : List UInt8)) = false := beq_eq_false_iff_ne.mpr c9
                  have c9b1 : (a0.toList != ([33, 61] : List UInt8)) = true := bne_iff_ne.mpr c9
                  by_cases c10 : a0.toList = ([40] : List UInt8)
                  · rw [if_pos c10] at H
                    have c10b0 : (a0.toList == ([40] : List UInt8)) = true := beq_iff_eq.mpr c10
                    have c10b1 : (a0.toList != ([40] : List UInt8)) = false := bne_eq_false_iff_eq.mpr c10
                    clear c10
                    obtain rfl := Option.some.inj H
                    go_enter Try.func10, Try.ntmps10
                    go_wp2
                    go_ret
                    exact ⟨by first | rfl | (simp; done) | (simp [*]; done), by repeat (first | exact Drawn0.refl _ | apply Drawn0.step)⟩
                  · rw [if_neg c10] at H
                    have c10b0 : (a0.toList == ([40] : List UInt8)) = false := beq_eq_false_iff_ne.mpr c10
                    have c10b1 : (a0.toList != ([40] : List UInt8)) = true := bne_iff_ne.mpr c10
                    obtain rfl := Option.some.inj H
                    go_enter Try.func10, Try.ntmps10
                    go_wp2
                    go_ret
                    exact ⟨by first | rfl | (simp; done) | (simp [*]; done), by repeat (first | exact Drawn0.refl _ | apply Drawn0.step)⟩

end Go.Proofs.Ytlhbmifffmegeaa.PFnLabelLex
