/- Functions of the program as plain Lean functions, and that the machine's calls do what these say: written for this claim by wip/myprint.py over the kit's print.py. -/
import Derived.Test.YtgidpggooclebaaPFnFieldSplitx0
namespace Go.Proofs.Ytgidpggooclebaa.PFnFieldSplit
open Go.RowKit Go.Proofs.YtgidpggooclebaaW.PrintWords Go.Proofs.YtgidpggooclebaaW.PrintLast Go.Proofs.YtgidpggooclebaaW.PrintMore
attribute [local go_sem] max2_int min2_int max_two min_two max_three min_three max_four min_four   -- for this text's walks alone
set_option linter.unusedVariables false
set_option linter.unusedSimpArgs false

/-! ### spec_KeysSame_string: function 13 -/
def spec_KeysSame_string.l0 : Nat → List ByteArray → List ByteArray → Int → Option (Bool)
  | 0, _, _, _ => none
  | k + 1, x0, x1, x5 => if x5 < (x0.length : Int) then (if 0 ≤ x5 then (if x5 < (x1.length : Int) then (if (rdOf ByteArray.empty x0 x5).toList = (rdOf ByteArray.empty x1 x5).toList then (spec_KeysSame_string.l0 k x0 x1 (wrap64 (x5 + 1))) else (some false)) else (none)) else (none)) else (some true)
def spec_KeysSame_string.f (k : Nat) (l0 : List ByteArray) (l1 : List ByteArray) : Option (Bool) := if (l0.length : Int) = (l1.length : Int) then (spec_KeysSame_string.l0 k l0 l1 0) else (some false)
theorem spec_KeysSame_string.mono_l : ∀ k, (∀ y0 y1 y2, LeO (spec_KeysSame_string.l0 k y0 y1 y2) (spec_KeysSame_string.l0 (k + 1) y0 y1 y2))
  | 0 => fun _ _ _ r h => by simp [spec_KeysSame_string.l0] at h
  | k + 1 => by
    have ih0 := spec_KeysSame_string.mono_l k
    · intro y0 y1 y2
      unfold spec_KeysSame_string.l0
      repeat' first
      | (with_reducible exact ih0 _ _ _)
      | (with_reducible exact LeO.refl _)
      | (with_reducible exact LeO.none _)
      | (with_reducible refine LeO.ite ?_ ?_)
      | (with_reducible refine LeO.bind ?_ (fun _ => ?_))
      | exact ih0 _ _ _
      | exact LeO.none _
      | refine LeO.ite ?_ ?_
      | refine LeO.bind ?_ (fun _ => ?_)
theorem spec_KeysSame_string.mono : ∀ a0 a1 k, LeO (spec_KeysSame_string.f k a0 a1) (spec_KeysSame_string.f (k + 1) a0 a1) := by
  intro a0 a1 k
  have ih0 := spec_KeysSame_string.mono_l k
  unfold spec_KeysSame_string.f
  repeat' first
      | (with_reducible exact ih0 _ _ _)
      | (with_reducible exact LeO.refl _)
      | (with_reducible exact LeO.none _)
      | (with_reducible refine LeO.ite ?_ ?_)
      | (with_reducible refine LeO.bind ?_ (fun _ => ?_))
      | exact ih0 _ _ _
      | exact LeO.none _
      | refine LeO.ite ?_ ?_
      | refine LeO.bind ?_ (fun _ => ?_)
set_option maxHeartbeats 8000000 in
set_option maxRecDepth 100000 in
theorem spec_KeysSame_string.calls (k : Nat) (A0 : Option Addr) (c0 : Nat) (l0 : List ByteArray) (A1 : Option Addr) (c1 : Nat) (l1 : List ByteArray) (r : Bool) (w : World) (hr0 : Kd.C Kd.string w A0 l0.length l0) (hc0 : l0.length ≤ c0) (hr1 : Kd.C Kd.string w A1 l1.length l1) (hc1 : l1.length ≤ c1) (h : spec_KeysSame_string.f k l0 l1 = some r) :
    Calls Try.prog 13 #[.slice A0 l0.length c0, .slice A1 l1.length c1] w fun e w' => e = .returned (.bool r) ∧ Drawn0 w w' := by
  have HR0 := Aside0.mk hr0
  have HC0 := Aside0.mk hc0
  clear hr0 hc0
  have HR1 := Aside0.mk hr1
  have HC1 := Aside0.mk hc1
  clear hr1 hc1
  have H : (if (l0.length : Int) = (l1.length : Int) then (spec_KeysSame_string.l0 k l0 l1 0) else (some false)) = some r := h
  clear h
  by_cases c3 : (l0.length : Int) = (l1.length : Int)
  · rw [if_pos c3] at H
    have c3b0 : ((l0.length : Int) == (l1.length : Int)) = true := beq_iff_eq.mpr c3
    have c3b1 : ((l0.length : Int) != (l1.length : Int)) = false := bne_eq_false_iff_eq.mpr c3
    have c3b2 : (l0.length == l1.length) = true := by first | simpa using c3 | (simp at c3 ⊢; omega)
    clear c3
    have H' := Aside0.mk H
    clear H
    go_enter Try.func13, Try.ntmps13
    go_wp2
    repeat (go_quiet (fail); try go_wp2)
    go_loopg [5] k (fun kq v5 w' => ∃ (x5_1 : Int), v5 = .int .i64 x5_1 ∧ Aside0 (spec_KeysSame_string.l0 kq l0 l1 x5_1 = some r) ∧ Aside0 (kq ≤ k) ∧ Drawn0 w w')
    case atStart => exact ⟨(0), (by first | rfl | (simp; done) | (simp [*]; done)), H', ⟨Nat.le_refl _⟩, by repeat (first | exact Drawn0.refl _ | apply Drawn0.step)⟩
    case round =>
      clear H'
      try clear c1
      try clear p2
      try clear c3
      try clear c3b0
      try clear c3b1
      try clear c3b2
      obtain ⟨x5_1, rfl, HA, HK1, ⟨m1, rfl⟩⟩ := hrel
      cases gk with
      | zero => exact absurd HA.out (by simp [spec_KeysSame_string.l0])
      | succ k1 =>
        have H := HA.out
        clear HA
        simp only [spec_KeysSame_string.l0] at H
        by_cases c4 : x5_1 < (l0.length : Int)
        · rw [if_pos c4] at H
          have c4b0 : decide (x5_1 < (l0.length : Int)) = true := decide_eq_true c4
          clear c4
          by_cases c5 : 0 ≤ x5_1
          · rw [if_pos c5] at H
            have c5b0 : decide (0 ≤ x5_1) = true := decide_eq_true c5
            clear c5
            by_cases c6 : x5_1 < (l1.length : Int)
            · rw [if_pos c6] at H
              have c6b0 : decide (x5_1 < (l1.length : Int)) = true := decide_eq_true c6
              clear c6
              by_cases c7 : (rdOf ByteArray.empty l0 x5_1).toList = (rdOf ByteArray.empty l1 x5_1).toList
              · rw [if_pos c7] at H
                have c7b0 : ((rdOf ByteArray.empty l0 x5_1).toList == (rdOf ByteArray.empty l1 x5_1).toList) = true := beq_iff_eq.mpr c7
                have c7b1 : ((rdOf ByteArray.empty l0 x5_1).toList != (rdOf ByteArray.empty l1 x5_1).toList) = false := bne_eq_false_iff_eq.mpr c7
                clear c7
                have H' := Aside0.mk H
                clear H
                have p101 : 0 ≤ (x5_1 : Int) := of_decide_eq_true (by first | (with_reducible assumption) | assumption)
                have q101 : x5_1 < (l0.length : Int) := of_decide_eq_true (by first | (with_reducible assumption) | assumption)
                obtain ⟨ad101, e101, hx101_0⟩ := Kd.at_string HR0.out x5_1 p101 q101
                cases e101
                replace p101 := eq_true p101
                replace q101 := eq_true q101
                have p102 : 0 ≤ (x5_1 : Int) := of_decide_eq_true (by first | (with_reducible assumption) | assumption)
                have q102 : x5_1 < (l1.length : Int) := of_decide_eq_true (by first | (with_reducible assumption) | assumption)
                obtain ⟨ad102, e102, hx102_0⟩ := Kd.at_string HR1.out x5_1 p102 q102
                cases e102
                replace p102 := eq_true p102
                replace q102 := eq_true q102
                go_wp2
                repeat (go_quiet (fail); try go_wp2)
                go_roundg k1
                case measure => have := HK1.out; omega
                case rel => exact ⟨(wrap64 (x5_1 + 1)), (by first | rfl | (simp; done) | (simp [*]; done)), H', ⟨by have := HK1.out; omega⟩, by repeat (first | exact Drawn0.refl _ | apply Drawn0.step)⟩
              · rw [if_neg c7] at H
                have c7b0 : ((rdOf ByteArray.empty l0 x5_1).toList == (rdOf ByteArray.empty l1 x5_1).toList) = false := beq_eq_false_iff_ne.mpr c7
                have c7b1 : ((rdOf ByteArray.empty l0 x5_1).toList != (rdOf ByteArray.empty l1 x5_1).toList) = true := bne_iff_ne.mpr c7
                obtain rfl := Option.some.inj H
                have p101 : 0 ≤ (x5_1 : Int) := of_decide_eq_true (by first | (with_reducible assumption) | assumption)
                have q101 : x5_1 < (l0.length : Int) := of_decide_eq_true (by first | (with_reducible assumption) | assumption)
                obtain ⟨ad101, e101, hx101_0⟩ := Kd.at_string HR0.out x5_1 p101 q101
                cases e101
                replace p101 := eq_true p101
                replace q101 := eq_true q101
                have p102 : 0 ≤ (x5_1 : Int) := of_decide_eq_true (by first | (with_reducible assumption) | assumption)
                have q102 : x5_1 < (l1.length : Int) := of_decide_eq_true (by first | (with_reducible assumption) | assumption)
                obtain ⟨ad102, e102, hx102_0⟩ := Kd.at_string HR1.out x5_1 p102 q102
                cases e102
                replace p102 := eq_true p102
                replace q102 := eq_true q102
                go_wp2
                repeat (go_quiet (fail); try go_wp2)
                go_ret
                exact ⟨by first | rfl | (simp; done) | (simp [*]; done), by repeat (first | exact Drawn0.refl _ | apply Drawn0.step)⟩
            · rw [if_neg c6] at H
              exact absurd H (by simp)
          · rw [if_neg c5] at H
            exact absurd H (by simp)
        · rw [if_neg c4] at H
          have c4b0 : decide (x5_1 < (l0.length : Int)) = false := decide_eq_false c4
          clear c4
          obtain rfl := Option.some.inj H
          go_wp2
          repeat (go_quiet (fail); try go_wp2)
          go_ret
          exact ⟨by first | rfl | (simp; done) | (simp [*]; done), by repeat (first | exact Drawn0.refl _ | apply Drawn0.step)⟩
  · rw [if_neg c3] at H
    have c3b0 : ((l0.length : Int) == (l1.length : Int)) = false := beq_eq_false_iff_ne.mpr c3
    have c3b1 : ((l0.length : Int) != (l1.length : Int)) = true := bne_iff_ne.mpr c3
    have c3b2 : (l0.length == l1.length) = false := by first | simpa using c3 | (simp at c3 ⊢; omega)
    obtain rfl := Option.some.inj H
    go_enter Try.func13, Try.ntmps13
    go_wp2
    repeat (go_quiet (fail); try go_wp2)
    go_ret
    exact ⟨by first | rfl | (simp; done) | (simp [*]; done), by repeat (first | exact Drawn0.refl _ | apply Drawn0.step)⟩

/-! ### impl_texts: function 27 -/
def impl_texts.f (l0 : List ByteArray) : Option (List ByteArray) := (some (([] : List ByteArray) : List ByteArray)).bind fun y103 => (if y103.length + l0.length < 8796093022208 then (some (y103 ++ l0)) else (none))
set_option maxHeartbeats 8000000 in
set_option maxRecDepth 100000 in
theorem impl_texts.calls (A0 : Option Addr) (c0 : Nat) (l0 : List ByteArray) (r : List ByteArray) (w : World) (hr0 : Kd.C Kd.string w A0 l0.length l0) (hc0 : l0.length ≤ c0) (h : impl_texts.f l0 = some r) :
    Calls Try.prog 27 #[.slice A0 l0.length c0] w fun e w' => ∃ v0_ : Value, e = .returned (v0_) ∧ Kd.R Kd.string 9 w' w.heap.size (fun _ => True) v0_ r ∧ Below w.heap.size w w' := by
  have HR0 := Aside0.mk hr0
  have HC0 := Aside0.mk hc0
  clear hr0 hc0
  have HB := Aside0.mk (Below.refl w.heap.size w)
  have H : ((some (([] : List ByteArray) : List ByteArray)).bind fun y103 => (if y103.length + l0.length < 8796093022208 then (some (y103 ++ l0)) else (none))) = some r := h
  clear h
  obtain ⟨y103, hy103⟩ : ∃ y_ : List ByteArray, y_ = (([] : List ByteArray)) := ⟨_, rfl⟩
  replace H : (if y103.length + l0.length < 8796093022208 then (some (y103 ++ l0)) else (none)) = some r := by first | (rw [hy103]; with_reducible exact H) | (have H2_ := (Option.bind_some _ _).symm.trans H; rw [hy103]; with_reducible exact H2_) | (have H2_ := (Option.bind_some _ _).symm.trans H; with_reducible exact H2_) | with_reducible exact H | (rw [hy103]; exact H) | exact H
  have Ny103 := Aside0.mk hy103
  clear hy103
  by_cases c2 : y103.length + l0.length < 8796093022208
  · rw [if_pos c2] at H
    have LMc2 := Aside0.mk c2
    clear c2
    obtain ⟨y106, hy106⟩ : ∃ y_ : List ByteArray, y_ = (y103 ++ l0) := ⟨_, rfl⟩
    replace H : (some y106) = some r := by first | (rw [hy106]; with_reducible exact H) | (have H2_ := (Option.bind_some _ _).symm.trans H; rw [hy106]; with_reducible exact H2_) | (have H2_ := (Option.bind_some _ _).symm.trans H; with_reducible exact H2_) | with_reducible exact H | (rw [hy106]; exact H) | exact H
    have Ny106 := Aside0.mk hy106
    clear hy106
    obtain rfl := Option.some.inj H
    go_enter Try.func27, Try.ntmps27
    go_wp2_with (first | ((with_reducible refine gate_dst (N := 3) rfl ?_); refine Kd.R_lit Kd.string _ 9 ?hg (N := 3) ?hd (xs := ([] : List ByteArray)) (inner := []) (ok := fun _ => True) (okp := fun _ => True) ?hr ?hp (fun _ hk => hk) trivial (Below.refl _ _) (Nat.le_refl _) (by simp) ?_; (case hd => rfl); (case hg => rfl); (case hr => first | (go_simp; done) | (go_simp; rfl)); (case hp => exact (Reps.none _ _)); intro v104 w3 ho4 hb hg_ hnew_; clear hg_ hnew_; (first | rw [← Ny103.out] at ho4 | (simp only [Int.reduceToNat] at ho4; rw [← Ny103.out] at ho4)); have n0_ := Aside0.mk (Kd.R_lower ho4 (below_size (by repeat (first | (with_reducible first | exact HB.out | apply below_alloc | apply pw_below_drewN | apply below_drew1) | exact HB.out)))); have n1_ := Aside0.mk (below_step (by repeat (first | (with_reducible first | exact HB.out | apply below_alloc | apply pw_below_drewN | apply below_drew1) | exact HB.out)) hb); clear HB; have HO105 := n0_; have HB := n1_; clear n0_ n1_; clear hb ho4) | ((with_reducible refine gate_builtin (b := .append) (xs := #[.tmp 3, .tmp 4]) rfl ?_); at_builtin; refine Kd.R_append_rows Kd.string (w0 := w) w.heap.size rfl (.tmp 3) (.tmp 4) 32 9 (.string ⟨#[]⟩) 16 rfl Try.underlying32 info9 rfl (by decide) (by omega) v104 y103 l0 _ _ _ (fun _ => True) (fun _ => False) rfl rfl ?aO ?aR (fun _ _ h => h) (fun _ h => h.elim) ?aF ?aB ?aS ?aL ?_; (case aR => repeat (first | exact (Kd.C_below HR0.out HB.out) | (with_reducible refine Kd.C_alloc ?_ _) | (with_reducible refine Kd.C_drewN ?_ _) | (with_reducible refine Kd.C_drew ?_))); (case aB => exact (by repeat (first | (with_reducible first | exact HB.out | apply below_alloc | apply pw_below_drewN | apply below_drew1) | exact HB.out))); (case aF => exact (fun _ _ => trivial)); (case aO => exact (by (with_reducible repeat (first | apply Kd.R_alloc | apply Kd.R_drewN | apply Kd.R_drew)); exact HO105.out)); (case aS => exact (below_size (by repeat (first | (with_reducible first | exact HB.out | apply below_alloc | apply pw_below_drewN | apply below_drew1) | exact HB.out)))); (case aL => have := LMc2.out; omega); intro v107 w5 ho hb hg hat; rw [← Ny106.out] at ho; have n0_ := Aside0.mk (hb); have n1_ := Aside0.mk (ho); clear HB; clear HO105; have HB := n0_; have HO108 := n1_; clear n0_ n1_; clear ho hb hg hat))
    go_ret
    exact ⟨_, by first | rfl | (simp [errW_none, errW_some] <;> rfl) | (simp [*, errW_none, errW_some] <;> rfl), by (with_reducible repeat (first | apply Kd.R_alloc | apply Kd.R_drewN | apply Kd.R_drew)); exact HO108.out, by repeat (first | (with_reducible first | exact HB.out | apply below_alloc | apply pw_below_drewN | apply below_drew1) | exact HB.out)⟩
  · rw [if_neg c2] at H
    exact absurd H (by simp)

/-! ### fields_splitTerms: function 36 -/
def spl (s : ByteArray) : Nat → List ByteArray → Nat → Bool → Nat → Option (List ByteArray)
  | 0, _, _, _, _ => none
  | k + 1, ts, st, sl, pos =>
    if pos < s.size then
      if sl = true then spl s k ts st false (pos + (Utf8.decode s pos).2)
      else if (Utf8.decode s pos).1 = 92 then spl s k ts st true (pos + (Utf8.decode s pos).2)
      else if (Utf8.decode s pos).1 = 44 then (if st ≤ pos ∧ ts.length < 8796093022207 then spl s k (ts ++ [s.extract st pos]) (pos + 1) false (pos + (Utf8.decode s pos).2) else none)
      else spl s k ts st false (pos + (Utf8.decode s pos).2)
    else if st ≤ s.size ∧ ts.length < 8796093022207 then some (ts ++ [s.extract st s.size]) else none
theorem spl_mono (s : ByteArray) : ∀ k ts st sl pos, LeO (spl s k ts st sl pos) (spl s (k + 1) ts st sl pos) := by
  intro k
  induction k with
  | zero => intros; exact LeO.none _
  | succ k ih =>
    intro ts st sl pos
    show LeO (spl s (k + 1) ts st sl pos) (spl s (k + 1 + 1) ts st sl pos)
    unfold spl
    exact LeO.ite (LeO.ite (ih _ _ _ _) (LeO.ite (ih _ _ _ _) (LeO.ite (LeO.ite (ih _ _ _ _) (LeO.none _)) (ih _ _ _ _)))) (LeO.refl _)
def fields_splitTerms.f (k : Nat) (a0 : ByteArray) : Option (List ByteArray) := if a0.size = 0 then some [] else if a0.size ≤ 9223372036854775806 then spl a0 k [] 0 false 0 else none
theorem fields_splitTerms.mono : ∀ a0 k, LeO (fields_splitTerms.f k a0) (fields_splitTerms.f (k + 1) a0) := by
  intro a0 k
  unfold fields_splitTerms.f
  exact LeO.ite (LeO.refl _) (LeO.ite (spl_mono _ _ _ _ _ _) (LeO.refl _))
set_option maxHeartbeats 4000000 in
theorem fields_splitTerms.calls (k : Nat) (a0 : ByteArray) (r : List ByteArray) (w : World) (h : fields_splitTerms.f k a0 = some r) :
    Calls Try.prog 36 #[.string a0] w fun e w' => ∃ v0_ : Value, e = .returned (v0_) ∧ Kd.R Kd.string 9 w' w.heap.size (fun _ => True) v0_ r ∧ Below w.heap.size w w' := by
  unfold fields_splitTerms.f at h
  by_cases h0 : a0.size = 0
  · rw [if_pos h0] at h
    obtain rfl := Option.some.inj h
    have e0 : ((a0.size : Int) == 0) = true := beq_iff_eq.2 (by omega)
    clear h h0
    go_enter Try.func36, Try.ntmps36
    go_wp2_with fail
    go_ret
    exact ⟨_, rfl, Kd.R_nil _ _ _ _ _, Below.refl _ _⟩
  · rw [if_neg h0] at h
    have e0 : ((a0.size : Int) == 0) = false := beq_eq_false_iff_ne.2 (by omega)
    by_cases h1 : a0.size ≤ 9223372036854775806
    · rw [if_pos h1] at h
      have HS := Aside0.mk h1
      have H' := Aside0.mk h
      clear h h0 h1
      have hmk : ∀ w0 : World, (Instr.makeSlice 32 (.int .i64 0) (.int .i64 1)).run Try.prog w0 = .ok (.slice (some ⟨w0.heap.size, 0, none⟩) 0 1) (w0.alloc (.cells #[.string ⟨#[]⟩] 9)) := by
        intro w0
        obtain ⟨i0, hi, hzz⟩ := Option.map_eq_some_iff.1 info9
        simp only [Prod.mk.injEq] at hzz
        obtain ⟨hz0, hz1, hz2⟩ := hzz
        have := run_make (P := Try.prog) w0 32 9 i0 (.string ⟨#[]⟩) Try.underlying32 hi hz0 .i64 .i64 0 1 (by omega) (by omega) (by rw [hz2]; omega) (by omega)
        rw [this, hz1]; have ar : Array.range 1 = #[0] := (by decide); simp [madeCells, Value.cells, ar]
      have hmk' := hmk w
      clear hmk
      go_enter Try.func36, Try.ntmps36
      go_wp2_with fail
      have HR : Aside0 (Kd.R Kd.string 9 (w.alloc (.cells #[.string ⟨#[]⟩] 9)) w.heap.size (fun q => q ≠ w.heap.size + 1) (.slice (some ⟨w.heap.size, 0, none⟩) 0 1) []) := ⟨by
        refine ⟨fun q hq => by simp [Value.ownBlock] at hq; omega, [], ⟨rfl, Or.inr ⟨w.heap.size, 1, #[.string ⟨#[]⟩], rfl, Nat.le_refl _, blk_new w _, by simp, by decide, rfl, rfl⟩⟩, Reps.none _ _⟩⟩
      go_loopg [3, 4, 5] k (fun kq v3 v4 v5 w' => ∃ (xs : List ByteArray) (st : Nat) (sl : Bool) (pos : Nat), v4 = .int .i64 (st : Int) ∧ v5 = .bool sl ∧ Aside0 (spl a0 kq xs st sl pos = some r) ∧ Aside0 (kq ≤ k) ∧ Aside0 (Kd.R Kd.string 9 w' w.heap.size (fun q => q ≠ w.heap.size + 1) v3 xs) ∧ Aside0 (Below w.heap.size w w') ∧ Aside0 (w'.heap[w.heap.size + 1]? = some (.stringIter a0 pos)))
      case atStart => exact ⟨[], 0, false, 0, rfl, rfl, H', ⟨Nat.le_refl _⟩, ⟨Kd.R_alloc HR.out _⟩, ⟨below_alloc (below_alloc (Below.refl _ _) _) _⟩, ⟨by have h := World.iter_heap (w.alloc (.cells #[.string ⟨#[]⟩] 9)) a0 0; have e : (w.alloc (.cells #[.string ⟨#[]⟩] 9)).heap.size = w.heap.size + 1 := (by simp); rw [e] at h; exact h⟩⟩
      case round =>
        clear H' HR hmk'
        obtain ⟨xs, st, sl, pos, rfl, rfl, HA, HK1, HR, HB, HI⟩ := hrel
        cases gk with
        | zero => exact absurd HA.out (by simp [spl])
        | succ k1 =>
          have H := HA.out
          clear HA
          simp only [spl] at H
          have IL : Aside0 (w.heap.size + 1 < wr.heap.size) := ⟨blk_lt HI.out⟩
          by_cases c1 : pos < a0.size
          · rw [if_pos c1] at H
            have hnx := fun ty => Lib.run_next_any_at (P := Try.prog) wr (w.heap.size + 1) a0 pos ty HI.out c1
            have RI : Aside0 (Kd.R Kd.string 9 (wr.iterAt (w.heap.size + 1) a0 (pos + (Utf8.decode a0 pos).2)) w.heap.size (fun q => q ≠ w.heap.size + 1) u3 xs) := ⟨Kd.R_step HR.out (fun q hq _ => Lib.iterAt_other wr _ q _ _ hq)⟩
            have BI : Aside0 (Below w.heap.size w (wr.iterAt (w.heap.size + 1) a0 (pos + (Utf8.decode a0 pos).2))) := ⟨Lib.below_iterAt HB.out (Nat.le_succ _) _ _⟩
            have II : Aside0 ((wr.iterAt (w.heap.size + 1) a0 (pos + (Utf8.decode a0 pos).2)).heap[w.heap.size + 1]? = some (.stringIter a0 (pos + (Utf8.decode a0 pos).2))) := ⟨Lib.iterAt_heap _ _ _ _ _ HI.out⟩
            have ZL : Aside0 (w.heap.size + 1 < (wr.iterAt (w.heap.size + 1) a0 (pos + (Utf8.decode a0 pos).2)).heap.size) := ⟨blk_lt II.out⟩
            clear HR HB HI
            cases sl with
            | true =>
              rw [if_pos rfl] at H
              have H' := Aside0.mk H
              clear H
              go_wp2_with fail
              go_roundg k1
              case measure => have := HK1.out; omega
              case rel => exact ⟨xs, st, false, _, rfl, rfl, H', ⟨by have := HK1.out; omega⟩, ⟨RI.out⟩, ⟨BI.out⟩, ⟨II.out⟩⟩
            | false =>
              rw [if_neg (by simp)] at H
              by_cases c2 : (Utf8.decode a0 pos).1 = 92
              · rw [if_pos c2] at H
                have H' := Aside0.mk H
                clear H
                have e2 : (((Utf8.decode a0 pos).1 : Int) == 92) = true := beq_iff_eq.2 (by omega)
                clear c2
                go_wp2_with fail
                go_roundg k1
                case measure => have := HK1.out; omega
                case rel => exact ⟨xs, st, true, _, rfl, rfl, H', ⟨by have := HK1.out; omega⟩, ⟨RI.out⟩, ⟨BI.out⟩, ⟨II.out⟩⟩
              · rw [if_neg c2] at H
                have e2 : (((Utf8.decode a0 pos).1 : Int) == 92) = false := beq_eq_false_iff_ne.2 (by omega)
                clear c2
                by_cases c3 : (Utf8.decode a0 pos).1 = 44
                · rw [if_pos c3] at H
                  have e3 : (((Utf8.decode a0 pos).1 : Int) == 44) = true := beq_iff_eq.2 (by omega)
                  clear c3
                  by_cases c4 : st ≤ pos ∧ xs.length < 8796093022207
                  · rw [if_pos c4] at H
                    have H' := Aside0.mk H
                    clear H
                    have LM : Aside0 (xs.length < 8796093022207) := ⟨c4.2⟩
                    have p1 : (0 ≤ (st : Int)) = True := eq_true (by omega)
                    have p2 : ((st : Int) ≤ (pos : Int)) = True := eq_true (by omega)
                    have p3 : ((pos : Int) ≤ (a0.size : Int)) = True := eq_true (by omega)
                    have p4 : st ≤ pos := c4.1
                    have p5 : pos ≤ a0.size := by omega
                    have hw : wrap64 ((pos : Int) + 1) = ((pos + 1 : Nat) : Int) := by have := HS.out; simp only [wrap64]; omega
                    have hw' := Aside0.mk hw
                    clear c4 hw
                    obtain ⟨Ao, co, eo⟩ := Kd.R_slice RI.out
                    subst eo
                    go_wp2_with (first | ((with_reducible refine gate_builtin (b := .append) (xs := #[.tmp 26, .tmp 31]) rfl ?_); at_builtin; refine Kd.R_append Kd.string (w0 := w) w.heap.size rfl (.tmp 26) (.tmp 31) 32 9 (.string ⟨#[]⟩) 16 rfl Try.underlying32 info9 rfl (by decide) (by omega) (.slice Ao xs.length co) xs (a0.extract st pos) [.string (a0.extract st pos)] (fun q => q ≠ w.heap.size + 1) (fun _ => False) rfl rfl ?aP (fun _ hk => hk.elim) ?aF ?aO ?aB ?aS ?aL ?_; (case aP => exact rfl); (case aB => exact BI.out); (case aF => intro q hq; have z1 := ZL.out; omega); (case aO => exact RI.out); (case aS => exact below_size BI.out); (case aL => have := LM.out; omega); intro v9 w9 ho hb hg hat))
                    have RO := Aside0.mk ho
                    have BO := Aside0.mk hb
                    have IO : Aside0 (w9.heap[w.heap.size + 1]? = some (.stringIter a0 (pos + (Utf8.decode a0 pos).2))) := ⟨blk_grown II.out hg (Kd.R_away RI.out (fun q hq => hq)).symm.symm⟩
                    clear ho hb hg hat RI BI II
                    go_wp2_with fail
                    rw [hw'.out]
                    go_roundg k1
                    case measure => have := HK1.out; omega
                    case rel => exact ⟨_, pos + 1, false, _, rfl, rfl, H', ⟨by have := HK1.out; omega⟩, RO, BO, IO⟩
                  · rw [if_neg c4] at H
                    simp at H
                · rw [if_neg c3] at H
                  have H' := Aside0.mk H
                  clear H
                  have e3 : (((Utf8.decode a0 pos).1 : Int) == 44) = false := beq_eq_false_iff_ne.2 (by omega)
                  clear c3
                  go_wp2_with fail
                  go_roundg k1
                  case measure => have := HK1.out; omega
                  case rel => exact ⟨xs, st, false, _, rfl, rfl, H', ⟨by have := HK1.out; omega⟩, ⟨RI.out⟩, ⟨BI.out⟩, ⟨II.out⟩⟩
          · rw [if_neg c1] at H
            have hnx := fun ty => Lib.run_next_end_at (P := Try.prog) wr (w.heap.size + 1) a0 pos ty HI.out c1
            by_cases c4 : st ≤ a0.size ∧ xs.length < 8796093022207
            · rw [if_pos c4] at H
              obtain rfl := Option.some.inj H
              clear H
              have LM : Aside0 (xs.length < 8796093022207) := ⟨c4.2⟩
              have p1 : (0 ≤ (st : Int)) = True := eq_true (by omega)
              have p2 : ((st : Int) ≤ (a0.size : Int)) = True := eq_true (by omega)
              have p4 : st ≤ a0.size := c4.1
              clear c4
              obtain ⟨Ao, co, eo⟩ := Kd.R_slice HR.out
              subst eo
              go_wp2_with (first | ((with_reducible refine gate_builtin (b := .append) (xs := #[.tmp 35, .tmp 39]) rfl ?_); at_builtin; refine Kd.R_append Kd.string (w0 := w) w.heap.size rfl (.tmp 35) (.tmp 39) 32 9 (.string ⟨#[]⟩) 16 rfl Try.underlying32 info9 rfl (by decide) (by omega) (.slice Ao xs.length co) xs (a0.extract st a0.size) [.string (a0.extract st a0.size)] (fun q => q ≠ w.heap.size + 1) (fun _ => False) rfl rfl ?aP (fun _ hk => hk.elim) ?aF ?aO ?aB ?aS ?aL ?_; (case aP => exact rfl); (case aB => exact HB.out); (case aF => intro q hq; have z1 := IL.out; omega); (case aO => exact HR.out); (case aS => exact below_size HB.out); (case aL => have := LM.out; omega); intro v9 w9 ho hb hg hat))
              have RO := Aside0.mk ho
              have BO := Aside0.mk hb
              clear ho hb hg hat HR HB HI
              go_wp2_with fail
              go_ret
              exact ⟨_, rfl, Kd.R_mono RO.out (fun _ _ => trivial), BO.out⟩
            · rw [if_neg c4] at H
              simp at H
    · rw [if_neg h1] at h
      simp at h
/-! ### fields_ZzSplitTerms: function 28 -/
def fields_ZzSplitTerms.f (k : Nat) (a0 : ByteArray) : Option (List ByteArray) := (fields_splitTerms.f k a0).bind fun t109 => (some t109)
theorem fields_ZzSplitTerms.mono : ∀ a0 k, LeO (fields_ZzSplitTerms.f k a0) (fields_ZzSplitTerms.f (k + 1) a0) := by
  intro a0 k
  unfold fields_ZzSplitTerms.f
  repeat' first
      | (with_reducible exact fields_splitTerms.mono _ _)
      | (with_reducible exact LeO.refl _)
      | (with_reducible exact LeO.none _)
      | (with_reducible refine LeO.ite ?_ ?_)
      | (with_reducible refine LeO.bind ?_ (fun _ => ?_))
      | exact fields_splitTerms.mono _ _
      | exact LeO.none _
      | refine LeO.ite ?_ ?_
      | refine LeO.bind ?_ (fun _ => ?_)
set_option maxHeartbeats 8000000 in
set_option maxRecDepth 100000 in
theorem fields_ZzSplitTerms.calls (k : Nat) (a0 : ByteArray) (r : List ByteArray) (w : World) (h : fields_ZzSplitTerms.f k a0 = some r) :
    Calls Try.prog 28 #[.string a0] w fun e w' => ∃ v0_ : Value, e = .returned (v0_) ∧ Kd.R Kd.string 9 w' w.heap.size (fun _ => True) v0_ r ∧ Below w.heap.size w w' := by
  have HB := Aside0.mk (Below.refl w.heap.size w)
  have H : ((fields_splitTerms.f k a0).bind fun t109 => (some t109)) = some r := h
  clear h
  replace H := Option.bind_eq_some_iff.mp H
  obtain ⟨t109, A20, H⟩ := H
  replace H : (some t109) = some r := H
  have A2 := Aside0.mk A20
  clear A20
  obtain rfl := Option.some.inj H
  go_enter Try.func28, Try.ntmps28
  go_wp2_with (first | ((with_reducible refine gate_callee (f := 36) rfl ?_); refine goesL_ (some 4) rfl rfl Try.func36 (by kernel_rfl) rfl #[.string a0] rfl (by (try simp only [List.map_toArray, List.map_cons, List.map_nil]); first | done | rfl | (simp only [List.length_drop, List.length_take]; rfl)) ?_; (with_reducible refine (fields_splitTerms.calls k a0 t109 _ A2.out).mono ?_); rintro e w3 ⟨v110, rfl, ho0, hb⟩; refine ⟨_, rfl, ?_⟩; have n0_ := Aside0.mk (Kd.R_lower ho0 (below_size (by repeat (first | (with_reducible first | exact HB.out | apply below_alloc | apply pw_below_drewN | apply below_drew1) | exact HB.out)))); have n1_ := Aside0.mk (below_step (by repeat (first | (with_reducible first | exact HB.out | apply below_alloc | apply pw_below_drewN | apply below_drew1) | exact HB.out)) hb); clear HB; have HO111 := n0_; have HB := n1_; clear n0_ n1_; (try clear hb); (try clear hb2); (try clear hk); (try clear hi); (try clear ho0)))
  go_ret
  exact ⟨_, by first | rfl | (simp [errW_none, errW_some] <;> rfl) | (simp [*, errW_none, errW_some] <;> rfl), by (with_reducible repeat (first | apply Kd.R_alloc | apply Kd.R_drewN | apply Kd.R_drew)); exact HO111.out, by repeat (first | (with_reducible first | exact HB.out | apply below_alloc | apply pw_below_drewN | apply below_drew1) | exact HB.out)⟩

/-! ### impl_FieldSplit: function 14 -/
def impl_FieldSplit.f (k : Nat) (a0 : ByteArray) : Option (List ByteArray) := (fields_ZzSplitTerms.f k a0).bind fun t112 => ((impl_texts.f t112).bind fun t115 => (some t115))
theorem impl_FieldSplit.mono : ∀ a0 k, LeO (impl_FieldSplit.f k a0) (impl_FieldSplit.f (k + 1) a0) := by
  intro a0 k
  unfold impl_FieldSplit.f
  repeat' first
      | (with_reducible exact fields_ZzSplitTerms.mono _ _)
      | (with_reducible exact LeO.refl _)
      | (with_reducible exact LeO.none _)
      | (with_reducible refine LeO.ite ?_ ?_)
      | (with_reducible refine LeO.bind ?_ (fun _ => ?_))
      | exact fields_ZzSplitTerms.mono _ _
      | exact LeO.none _
      | refine LeO.ite ?_ ?_
      | refine LeO.bind ?_ (fun _ => ?_)
set_option maxHeartbeats 8000000 in
set_option maxRecDepth 100000 in
theorem impl_FieldSplit.calls (k : Nat) (a0 : ByteArray) (r : List ByteArray) (w : World) (h : impl_FieldSplit.f k a0 = some r) :
    Calls Try.prog 14 #[.string a0] w fun e w' => ∃ v0_ : Value, e = .returned (v0_) ∧ Kd.R Kd.string 9 w' w.heap.size (fun _ => True) v0_ r ∧ Below w.heap.size w w' := by
  have HB := Aside0.mk (Below.refl w.heap.size w)
  have H : ((fields_ZzSplitTerms.f k a0).bind fun t112 => ((impl_texts.f t112).bind fun t115 => (some t115))) = some r := h
  clear h
  replace H := Option.bind_eq_some_iff.mp H
  obtain ⟨t112, A20, H⟩ := H
  replace H : ((impl_texts.f t112).bind fun t115 => (some t115)) = some r := H
  have A2 := Aside0.mk A20
  clear A20
  replace H := Option.bind_eq_some_iff.mp H
  obtain ⟨t115, A30, H⟩ := H
  replace H : (some t115) = some r := H
  have A3 := Aside0.mk A30
  clear A30
  obtain rfl := Option.some.inj H
  go_enter Try.func14, Try.ntmps14
  go_wp2_with (first | ((with_reducible refine gate_callee (f := 28) rfl ?_); refine goesL_ (some 4) rfl rfl Try.func28 (by kernel_rfl) rfl #[.string a0] rfl (by (try simp only [List.map_toArray, List.map_cons, List.map_nil]); first | done | rfl | (simp only [List.length_drop, List.length_take]; rfl)) ?_; (with_reducible refine (fields_ZzSplitTerms.calls k a0 t112 _ A2.out).mono ?_); rintro e w4 ⟨v113, rfl, ho0, hb⟩; refine ⟨_, rfl, ?_⟩; have n0_ := Aside0.mk (Kd.R_lower ho0 (below_size (by repeat (first | (with_reducible first | exact HB.out | apply below_alloc | apply pw_below_drewN | apply below_drew1) | exact HB.out)))); have n1_ := Aside0.mk (below_step (by repeat (first | (with_reducible first | exact HB.out | apply below_alloc | apply pw_below_drewN | apply below_drew1) | exact HB.out)) hb); clear HB; have HO114 := n0_; have HB := n1_; clear n0_ n1_; (try clear hb); (try clear hb2); (try clear hk); (try clear hi); (try clear ho0); obtain ⟨Ao5, co5, eo5⟩ := Kd.R_slice HO114.out; subst eo5) | ((with_reducible refine gate_callee (f := 27) rfl ?_); refine goesL_ (some 5) rfl rfl Try.func27 (by kernel_rfl) rfl #[.slice Ao5 t112.length co5] rfl (by (try simp only [List.map_toArray, List.map_cons, List.map_nil]); first | done | rfl | (simp only [List.length_drop, List.length_take]; rfl)) ?_; (with_reducible refine (impl_texts.calls _ _ t112 t115 _ ?side1 ?side2 A3.out).mono ?_); (case side1 => repeat (first | exact (Kd.R_reads' HO114.out).2.2 | (with_reducible refine Kd.C_alloc ?_ _) | (with_reducible refine Kd.C_drewN ?_ _) | (with_reducible refine Kd.C_drew ?_))); (case side2 => exact (Kd.R_reads' HO114.out).2.1); rintro e w6 ⟨v116, rfl, ho0, hb⟩; refine ⟨_, rfl, ?_⟩; have n0_ := Aside0.mk (Kd.R_elder' (by (with_reducible repeat (first | apply Kd.R_alloc | apply Kd.R_drewN | apply Kd.R_drew)); exact HO114.out) (Kd.R_base ho0) hb); have n1_ := Aside0.mk (Kd.R_lower (Kd.R_new' ho0 (Kd.R_lt (by (with_reducible repeat (first | apply Kd.R_alloc | apply Kd.R_drewN | apply Kd.R_drew)); exact HO114.out))) (below_size (by repeat (first | (with_reducible first | exact HB.out | apply below_alloc | apply pw_below_drewN | apply below_drew1) | exact HB.out)))); have n2_ := Aside0.mk (below_step (by repeat (first | (with_reducible first | exact HB.out | apply below_alloc | apply pw_below_drewN | apply below_drew1) | exact HB.out)) hb); clear HO114; clear HB; have HO114 := n0_; have HO117 := n1_; have HB := n2_; clear n0_ n1_ n2_; (try clear hb); (try clear hb2); (try clear hk); (try clear hi); (try clear ho0)))
  go_ret
  exact ⟨_, by first | rfl | (simp [errW_none, errW_some] <;> rfl) | (simp [*, errW_none, errW_some] <;> rfl), by (with_reducible repeat (first | apply Kd.R_alloc | apply Kd.R_drewN | apply Kd.R_drew)); exact Kd.R_mono HO117.out (fun _ hk => trivial), by repeat (first | (with_reducible first | exact HB.out | apply below_alloc | apply pw_below_drewN | apply below_drew1) | exact HB.out)⟩

end Go.Proofs.Ytgidpggooclebaa.PFnFieldSplit
