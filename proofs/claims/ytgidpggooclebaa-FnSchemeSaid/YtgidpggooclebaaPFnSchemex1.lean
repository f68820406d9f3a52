/- Functions of the program as plain Lean functions, and that the machine's calls do what these say: written for this claim by wip/myprint.py over the kit's print.py. -/
import Derived.Test.YtgidpggooclebaaPFnSchemex0
namespace Go.Proofs.Ytgidpggooclebaa.PFnScheme
open Go.RowKit Go.Proofs.YtgidpggooclebaaW.PrintWords Go.Proofs.YtgidpggooclebaaW.PrintLast Go.Proofs.YtgidpggooclebaaW.PrintMore
attribute [local go_sem] max2_int min2_int max_two min_two max_three min_three max_four min_four   -- for this text's walks alone
set_option linter.unusedVariables false
set_option linter.unusedSimpArgs false

/-! ### spec_Split: function 20 -/
def spS (s : ByteArray) (c : Int) : Nat → List ByteArray → Nat → Option (List ByteArray)
  | 0, _, _ => none
  | k + 1, ts, pos =>
    if pos < s.size then
      if bt s pos = c then (if ts.length < 8796093022207 then spS s c k (ts ++ [(⟨#[]⟩ : ByteArray)]) (pos + 1) else none)
      else (if 0 < ts.length ∧ (rdOf ByteArray.empty ts ((ts.length - 1 : Nat) : Int)).size ≤ 140737488351232 ∧ ts.length < 8796093022207 then spS s c k (ts.set (ts.length - 1) (rdOf ByteArray.empty ts ((ts.length - 1 : Nat) : Int) ++ s.extract pos (pos + 1))) (pos + 1) else none)
    else some ts
theorem spS_mono (s : ByteArray) (c : Int) : ∀ k ts pos, LeO (spS s c k ts pos) (spS s c (k + 1) ts pos) := by
  intro k
  induction k with
  | zero => intros; exact LeO.none _
  | succ k ih =>
    intro ts pos
    show LeO (spS s c (k + 1) ts pos) (spS s c (k + 1 + 1) ts pos)
    unfold spS
    exact LeO.ite (LeO.ite (LeO.ite (ih _ _) (LeO.none _)) (LeO.ite (ih _ _) (LeO.none _))) (LeO.refl _)
def spec_Split.f (k : Nat) (a0 : ByteArray) (a1 : Int) : Option (List ByteArray) := if a0.size ≤ 9223372036854775806 then spS a0 a1 k [(⟨#[]⟩ : ByteArray)] 0 else none
theorem spec_Split.mono : ∀ a0 a1 k, LeO (spec_Split.f k a0 a1) (spec_Split.f (k + 1) a0 a1) := by
  intro a0 a1 k
  unfold spec_Split.f
  exact LeO.ite (spS_mono _ _ _ _ _) (LeO.refl _)
set_option maxHeartbeats 4000000 in
theorem spec_Split.calls (k : Nat) (a0 : ByteArray) (a1 : Int) (r : List ByteArray) (w : World) (h : spec_Split.f k a0 a1 = some r) :
    Calls Try.prog 20 #[.string a0, .int .u8 a1] w fun e w' => ∃ v0_ : Value, e = .returned (v0_) ∧ Kd.R Kd.string 9 w' w.heap.size (fun _ => True) v0_ r ∧ Below w.heap.size w w' := by
  unfold spec_Split.f at h
  by_cases h1 : a0.size ≤ 9223372036854775806
  · rw [if_pos h1] at h
    have HS := Aside0.mk h1
    have H' := Aside0.mk h
    clear h h1
    go_enter Try.func20, Try.ntmps20
    go_wp2_with fail
    have HR0 : Aside0 (Kd.R Kd.string 9 (w.alloc (.cells #[.string ⟨#[]⟩] 9)) w.heap.size (fun _ => True) (.slice (some ⟨w.heap.size, 0, none⟩) 1 1) [(⟨#[]⟩ : ByteArray)]) := ⟨by
      refine ⟨fun q hq => trivial, [.string ⟨#[]⟩], ⟨rfl, Or.inr ⟨w.heap.size, 1, #[.string ⟨#[]⟩], rfl, Nat.le_refl _, blk_new w _, by simp, by decide, rfl, rfl⟩⟩, Reps.one (show Kd.M Kd.string _ _ _ (⟨#[]⟩ : ByteArray) [.string (⟨#[]⟩ : ByteArray)] from rfl) (Reps.none _ _)⟩⟩
    go_loopg [5, 6] k (fun kq v5 v6 w' => ∃ (xs : List ByteArray) (pos : Nat), v6 = .int .i64 (pos : Int) ∧ Aside0 (spS a0 a1 kq xs pos = some r) ∧ Aside0 (kq ≤ k) ∧ Aside0 (Kd.R Kd.string 9 w' w.heap.size (fun _ => True) v5 xs) ∧ Aside0 (Below w.heap.size w w'))
    case atStart => exact ⟨_, 0, rfl, H', ⟨Nat.le_refl _⟩, HR0, ⟨below_alloc (Below.refl _ _) _⟩⟩
    case round =>
      clear H' HR0
      obtain ⟨xs, pos, rfl, HA, HK1, HR, HB⟩ := hrel
      cases gk with
      | zero => exact absurd HA.out (by simp [spS])
      | succ k1 =>
        have H := HA.out
        clear HA
        simp only [spS] at H
        have hw : wrap64 ((pos : Int) + 1) = ((pos + 1 : Nat) : Int) ∨ ¬ pos < a0.size := by
          have := HS.out
          by_cases c : pos < a0.size
          · left; simp only [wrap64]; omega
          · exact Or.inr c
        have hw' := Aside0.mk hw
        clear hw
        obtain ⟨Ao, co, eo⟩ := Kd.R_slice HR.out
        subst eo
        by_cases c1 : pos < a0.size
        · rw [if_pos c1] at H
          have hw := Aside0.mk (hw'.out.resolve_right (fun z => z c1))
          have b1 : decide ((pos : Int) < (a0.size : Int)) = true := decide_eq_true (by omega)
          have p1 : (0 ≤ (pos : Int)) = True := eq_true (by omega)
          have q1 : ((pos : Int) < (a0.size : Int)) = True := eq_true (by omega)
          have hx : ∀ h : pos < a0.size, ((a0[pos]'h).toNat : Int) = bt a0 (pos : Int) := fun h => by have := bt_at a0 (pos : Int); simp only [Int.toNat_natCast] at this; exact this h
          by_cases c2 : bt a0 pos = a1
          · rw [if_pos c2] at H
            by_cases c4 : xs.length < 8796093022207
            · rw [if_pos c4] at H
              have H' := Aside0.mk H
              clear H
              have LM := Aside0.mk c4
              have e2 : ((bt a0 (pos : Int)) == a1) = true := beq_iff_eq.2 c2
              clear c4
              go_wp2_with (first | ((with_reducible refine gate_builtin (b := .append) (xs := #[.tmp 19, .tmp 20]) rfl ?_); at_builtin; refine Kd.R_append Kd.string (w0 := w) w.heap.size rfl (.tmp 19) (.tmp 20) 32 9 (.string ⟨#[]⟩) 16 rfl Try.underlying32 info9 rfl (by decide) (by omega) (.slice Ao xs.length co) xs (⟨#[]⟩ : ByteArray) [.string (⟨#[]⟩ : ByteArray)] (fun _ => True) (fun _ => False) rfl rfl ?aP (fun _ hk => hk.elim) ?aF ?aO ?aB ?aS ?aL ?_; (case aP => exact rfl); (case aB => exact HB.out); (case aF => exact fun _ _ => trivial); (case aO => exact HR.out); (case aS => exact below_size HB.out); (case aL => have := LM.out; omega); intro v9 w9 ho hb hg hat))
              have RO := Aside0.mk ho
              have BO := Aside0.mk hb
              clear ho hb hg hat HR HB
              go_wp2_with fail
              rw [hw.out]
              go_roundg k1
              case measure => have := HK1.out; omega
              case rel => exact ⟨_, pos + 1, rfl, H', ⟨by have := HK1.out; omega⟩, RO, BO⟩
            · rw [if_neg c4] at H
              simp at H
          · rw [if_neg c2] at H
            by_cases c4 : 0 < xs.length ∧ (rdOf ByteArray.empty xs ((xs.length - 1 : Nat) : Int)).size ≤ 140737488351232 ∧ xs.length < 8796093022207
            · rw [if_pos c4] at H
              have H' := Aside0.mk H
              clear H
              have e2 : ((bt a0 (pos : Int)) == a1) = false := beq_eq_false_iff_ne.2 c2
              have hj : wrap64 ((xs.length : Int) - 1) = ((xs.length - 1 : Nat) : Int) := by simp only [wrap64]; omega
              have hj' : IntKind.i64.wrap ((xs.length : Int) - 1) = ((xs.length - 1 : Nat) : Int) := by rw [IntKind.wrap_i64]; omega
              obtain ⟨go1, co1, eo1, gb1, gl1, cl1, HG1⟩ := Kd.R_form HR.out c4.1
              simp only [Value.slice.injEq] at eo1
              obtain ⟨rfl, -, rfl⟩ := eo1
              obtain ⟨hx0, hf0⟩ := Kd.R_celln (⟨#[]⟩ : ByteArray) HR.out ((xs.length - 1 : Nat) : Int) (by omega) (by omega)
              have z1 : (0 ≤ (((xs.length - 1 : Nat)) : Int)) = True := eq_true (by omega)
              have z2 : ((((xs.length - 1 : Nat)) : Int) < (xs.length : Int)) = True := eq_true (by omega)
              simp only [Int.toNat_natCast] at hx0 hf0
              have hext : (⟨[a0[pos]'c1].toArray⟩ : ByteArray) = a0.extract pos (pos + 1) := by
                apply ByteArray.ext
                simp only [ByteArray.data_extract]
                apply Array.toList_inj.1
                have hl : pos < a0.data.size := c1
                simp only [Array.toList_extract, List.extract_eq_take_drop, Nat.add_sub_cancel_left]
                rw [List.drop_eq_getElem_cons (by simpa using hl)]
                simp
                rfl
              have hcv : (convert 51 9 (.slice (some ⟨wr.heap.size, 0, none⟩) 1 1)).run Try.prog ((wr.alloc (.cells #[.int .u8 (bt a0 (pos : Int))] 5)).drew) = .ok (.string (a0.extract pos (pos + 1))) ((wr.alloc (.cells #[.int .u8 (bt a0 (pos : Int))] 5)).drew) := by
                have := run_convert_bytes_back (P := Try.prog) ((wr.alloc (.cells #[.int .u8 (bt a0 (pos : Int))] 5)).drew) 51 9 5 ⟨wr.heap.size, 0, none⟩ 1 [a0[pos]'c1] Try.underlying51 Try.underlying5 Try.underlying9 (fun j hj => by
                  have : j = 0 := by simpa using hj
                  subst this
                  have hb := blk_cell (blk_drew (blk_new wr (.cells #[.int .u8 (bt a0 (pos : Int))] 5 (0, 0)))) 0
                  rw [← hx c1] at hb ⊢
                  exact hb)
                rw [hext] at this
                exact this
              have hcc : (9223372036854775807 < (rdOf (⟨#[]⟩ : ByteArray) xs ((xs.length - 1 : Nat) : Int)).size + (min (pos + 1) a0.size - pos)) = False := eq_false (by have h9 : (rdOf (⟨#[]⟩ : ByteArray) xs ((xs.length - 1 : Nat) : Int)).size ≤ 140737488351232 := c4.2.1; omega)
              go_wp2_with fail
              go_region
              all_goals go_wp2_with fail
              all_goals rw [hw.out]
              all_goals go_roundg k1
              case measure => have := HK1.out; omega
              case rel => exact ⟨_, pos + 1, rfl, H', ⟨by have := HK1.out; omega⟩, ⟨Kd.R_drew (Kd.R_alloc (Kd.R_putn HR.out ((xs.length - 1 : Nat) : Int) (rdOf (⟨#[]⟩ : ByteArray) xs ((xs.length - 1 : Nat) : Int) ++ a0.extract pos (pos + 1))) _)⟩, ⟨below_drew1 (below_alloc (below_set HB.out gb1) _)⟩⟩
            · rw [if_neg c4] at H
              simp at H
        · rw [if_neg c1] at H
          have b1 : decide ((pos : Int) < (a0.size : Int)) = false := decide_eq_false (by omega)
          obtain rfl := Option.some.inj H
          clear H
          go_wp2_with fail
          go_ret
          exact ⟨_, rfl, HR.out, HB.out⟩
  · rw [if_neg h1] at h
    simp at h
/-! ### net_zzIndex: function 41 -/
def net_zzIndex.l0 : Nat → ByteArray → ByteArray → Int → Option (Int)
  | 0, _, _, _ => none
  | k + 1, x0, x1, x5 => if (wrap64 (x5 + (x1.size : Int))) ≤ (x0.size : Int) then (if 0 ≤ x5 then (if x5 ≤ (wrap64 (x5 + (x1.size : Int))) then (if (x0.extract (x5 : Int).toNat ((wrap64 (x5 + (x1.size : Int))) : Int).toNat).toList = x1.toList then (some x5) else (net_zzIndex.l0 k x0 x1 (wrap64 (x5 + 1)))) else (none)) else (none)) else (some (-1))
def net_zzIndex.f (k : Nat) (a0 : ByteArray) (a1 : ByteArray) : Option (Int) := net_zzIndex.l0 k a0 a1 0
theorem net_zzIndex.mono_l : ∀ k, (∀ y0 y1 y2, LeO (net_zzIndex.l0 k y0 y1 y2) (net_zzIndex.l0 (k + 1) y0 y1 y2))
  | 0 => fun _ _ _ r h => by simp [net_zzIndex.l0] at h
  | k + 1 => by
    have ih0 := net_zzIndex.mono_l k
    · intro y0 y1 y2
      unfold net_zzIndex.l0
      repeat' first
      | (with_reducible exact ih0 _ _ _)
      | (with_reducible exact LeO.refl _)
      | (with_reducible exact LeO.none _)
      | (with_reducible refine LeO.ite ?_ ?_)
      | (with_reducible refine LeO.bind ?_ (fun _ => ?_))
      | exact ih0 _ _ _
      | exact LeO.none _
      | refine LeO.ite ?_ ?_
      | refine LeO.bind ?_ (fun _ => ?_)
theorem net_zzIndex.mono : ∀ a0 a1 k, LeO (net_zzIndex.f k a0 a1) (net_zzIndex.f (k + 1) a0 a1) := by
  intro a0 a1 k
  have ih0 := net_zzIndex.mono_l k
  unfold net_zzIndex.f
  repeat' first
      | (with_reducible exact ih0 _ _ _)
      | (with_reducible exact LeO.refl _)
      | (with_reducible exact LeO.none _)
      | (with_reducible refine LeO.ite ?_ ?_)
      | (with_reducible refine LeO.bind ?_ (fun _ => ?_))
      | exact ih0 _ _ _
      | exact LeO.none _
      | refine LeO.ite ?_ ?_
      | refine LeO.bind ?_ (fun _ => ?_)
set_option maxHeartbeats 8000000 in
set_option maxRecDepth 100000 in
theorem net_zzIndex.calls (k : Nat) (a0 : ByteArray) (a1 : ByteArray) (r : Int) (w : World) (h : net_zzIndex.f k a0 a1 = some r) :
    Calls Try.prog 41 #[.string a0, .string a1] w fun e w' => e = .returned (.int .i64 r) ∧ Drawn0 w w' := by
  have H : (net_zzIndex.l0 k a0 a1 0) = some r := h
  clear h
  have H' := Aside0.mk H
  clear H
  go_enter Try.func41, Try.ntmps41
  go_wp2
  go_loopg [5] k (fun kq v5 w' => ∃ (x5_1 : Int), v5 = .int .i64 x5_1 ∧ Aside0 (net_zzIndex.l0 kq a0 a1 x5_1 = some r) ∧ Aside0 (kq ≤ k) ∧ Drawn0 w w')
  case atStart => exact ⟨(0), (by first | rfl | (simp; done) | (simp [*]; done)), H', ⟨Nat.le_refl _⟩, by repeat (first | exact Drawn0.refl _ | apply Drawn0.step)⟩
  case round =>
    clear H'
    try clear p2
    obtain ⟨x5_1, rfl, HA, HK1, ⟨m1, rfl⟩⟩ := hrel
    cases gk with
    | zero => exact absurd HA.out (by simp [net_zzIndex.l0])
    | succ k1 =>
      have H := HA.out
      clear HA
      simp only [net_zzIndex.l0] at H
      by_cases c3 : (wrap64 (x5_1 + (a1.size : Int))) ≤ (a0.size : Int)
      · rw [if_pos c3] at H
        have c3b0 : decide ((wrap64 (x5_1 + (a1.size : Int))) ≤ (a0.size : Int)) = true := decide_eq_true c3
        clear c3
        by_cases c4 : 0 ≤ x5_1
        · rw [if_pos c4] at H
          have c4b0 := eq_true c4
          have c4b1 : decide (0 ≤ x5_1) = true := decide_eq_true c4
          clear c4
          by_cases c5 : x5_1 ≤ (wrap64 (x5_1 + (a1.size : Int)))
          · rw [if_pos c5] at H
            have c5b0 := eq_true c5
            have c5b1 : decide (x5_1 ≤ (wrap64 (x5_1 + (a1.size : Int)))) = true := decide_eq_true c5
            have c6b0 := eq_true (of_decide_eq_true (by first | (with_reducible assumption) | assumption) : (wrap64 (x5_1 + (a1.size : Int))) ≤ (a0.size : Int))
            by_cases c7 : (a0.extract (x5_1 : Int).toNat ((wrap64 (x5_1 + (a1.size : Int))) : Int).toNat).toList = a1.toList
            · rw [if_pos c7] at H
              have c7b0 : ((a0.extract (x5_1 : Int).toNat ((wrap64 (x5_1 + (a1.size : Int))) : Int).toNat).toList == a1.toList) = true := beq_iff_eq.mpr c7
              have c7b1 : ((a0.extract (x5_1 : Int).toNat ((wrap64 (x5_1 + (a1.size : Int))) : Int).toNat).toList != a1.toList) = false := bne_eq_false_iff_eq.mpr c7
              clear c7
              obtain rfl := Option.some.inj H
              go_wp2
              go_ret
              exact ⟨by first | rfl | (simp; done) | (simp [*]; done), by repeat (first | exact Drawn0.refl _ | apply Drawn0.step)⟩
            · rw [if_neg c7] at H
              have c7b0 : ((a0.extract (x5_1 : Int).toNat ((wrap64 (x5_1 + (a1.size : Int))) : Int).toNat).toList == a1.toList) = false := beq_eq_false_iff_ne.mpr c7
              have c7b1 : ((a0.extract (x5_1 : Int).toNat ((wrap64 (x5_1 + (a1.size : Int))) : Int).toNat).toList != a1.toList) = true := bne_iff_ne.mpr c7
              have H' := Aside0.mk H
              clear H
              go_wp2
              go_roundg k1
              case measure => have := HK1.out; omega
              case rel => exact ⟨(wrap64 (x5_1 + 1)), (by first | rfl | (simp; done) | (simp [*]; done)), H', ⟨by have := HK1.out; omega⟩, by repeat (first | exact Drawn0.refl _ | apply Drawn0.step)⟩
          · rw [if_neg c5] at H
            exact absurd H (by simp)
        · rw [if_neg c4] at H
          exact absurd H (by simp)
      · rw [if_neg c3] at H
        have c3b0 : decide ((wrap64 (x5_1 + (a1.size : Int))) ≤ (a0.size : Int)) = false := decide_eq_false c3
        clear c3
        obtain rfl := Option.some.inj H
        go_wp2
        go_ret
        exact ⟨by first | rfl | (simp; done) | (simp [*]; done), by repeat (first | exact Drawn0.refl _ | apply Drawn0.step)⟩

/-! ### net_zzSplit: function 39 -/
def net_zzSplit.l1 : Nat → ByteArray → ByteArray → List ByteArray → Option (List ByteArray)
  | 0, _, _, _ => none
  | k + 1, x0, x1, x5 => (net_zzIndex.f k x0 x1).bind fun t101 => (if t101 < 0 then (if x5.length < 8796093022208 then (some (x5 ++ [x0])) else (none)) else (if 0 ≤ t101 then (if t101 ≤ (x0.size : Int) then (if x5.length < 8796093022208 then (if 0 ≤ (wrap64 (t101 + (x1.size : Int))) then (if (wrap64 (t101 + (x1.size : Int))) ≤ (x0.size : Int) then (net_zzSplit.l1 k (x0.extract ((wrap64 (t101 + (x1.size : Int))) : Int).toNat x0.size) x1 (x5 ++ [x0.extract 0 (t101 : Int).toNat])) else (none)) else (none)) else (none)) else (none)) else (none)))
def net_zzSplit.f (k : Nat) (a0 : ByteArray) (a1 : ByteArray) : Option (List ByteArray) := if (a1.size : Int) = 0 then (none) else (net_zzSplit.l1 k a0 a1 ([] : List ByteArray))
theorem net_zzSplit.mono_l : ∀ k, (∀ y0 y1 y2, LeO (net_zzSplit.l1 k y0 y1 y2) (net_zzSplit.l1 (k + 1) y0 y1 y2))
  | 0 => fun _ _ _ r h => by simp [net_zzSplit.l1] at h
  | k + 1 => by
    have ih0 := net_zzSplit.mono_l k
    · intro y0 y1 y2
      unfold net_zzSplit.l1
      repeat' first
      | (with_reducible exact ih0 _ _ _)
      | (with_reducible exact net_zzIndex.mono _ _ _)
      | (with_reducible exact LeO.refl _)
      | (with_reducible exact LeO.none _)
      | (with_reducible refine LeO.ite ?_ ?_)
      | (with_reducible refine LeO.bind ?_ (fun _ => ?_))
      | exact ih0 _ _ _
      | exact net_zzIndex.mono _ _ _
      | exact LeO.none _
      | refine LeO.ite ?_ ?_
      | refine LeO.bind ?_ (fun _ => ?_)
theorem net_zzSplit.mono : ∀ a0 a1 k, LeO (net_zzSplit.f k a0 a1) (net_zzSplit.f (k + 1) a0 a1) := by
  intro a0 a1 k
  have ih0 := net_zzSplit.mono_l k
  unfold net_zzSplit.f
  repeat' first
      | (with_reducible exact ih0 _ _ _)
      | (with_reducible exact net_zzIndex.mono _ _ _)
      | (with_reducible exact LeO.refl _)
      | (with_reducible exact LeO.none _)
      | (with_reducible refine LeO.ite ?_ ?_)
      | (with_reducible refine LeO.bind ?_ (fun _ => ?_))
      | exact ih0 _ _ _
      | exact net_zzIndex.mono _ _ _
      | exact LeO.none _
      | refine LeO.ite ?_ ?_
      | refine LeO.bind ?_ (fun _ => ?_)
set_option maxHeartbeats 8000000 in
set_option maxRecDepth 100000 in
theorem net_zzSplit.calls (k : Nat) (a0 : ByteArray) (a1 : ByteArray) (r : List ByteArray) (w : World) (h : net_zzSplit.f k a0 a1 = some r) :
    Calls Try.prog 39 #[.string a0, .string a1] w fun e w' => ∃ v0_ : Value, e = .returned (v0_) ∧ Kd.R Kd.string 9 w' w.heap.size (fun _ => True) v0_ r ∧ Below w.heap.size w w' := by
  have HB := Aside0.mk (Below.refl w.heap.size w)
  have H : (if (a1.size : Int) = 0 then (none) else (net_zzSplit.l1 k a0 a1 ([] : List ByteArray))) = some r := h
  clear h
  by_cases c3 : (a1.size : Int) = 0
  · rw [if_pos c3] at H
    exact absurd H (by simp)
  · rw [if_neg c3] at H
    have c3b0 : ((a1.size : Int) == 0) = false := beq_eq_false_iff_ne.mpr c3
    have c3b1 : ((a1.size : Int) != 0) = true := bne_iff_ne.mpr c3
    have H' := Aside0.mk H
    clear H
    go_enter Try.func39, Try.ntmps39
    go_wp2
    go_loopg [0, 5] k (fun kq v0 v5 w' => ∃ (x0_1 : ByteArray) (x5_1 : List ByteArray), v0 = .string x0_1 ∧ Aside0 (net_zzSplit.l1 kq x0_1 a1 x5_1 = some r) ∧ Aside0 (kq ≤ k) ∧ Aside0 (Kd.R Kd.string 9 w' w.heap.size (fun _ => True) v5 x5_1) ∧ Aside0 (Below w.heap.size w w'))
    case atStart => exact ⟨(a0), (([] : List ByteArray)), (by first | rfl | (simp; done) | (simp [*]; done)), H', ⟨Nat.le_refl _⟩, ⟨by first | exact Kd.R_nil _ _ _ _ _ | exact Kd.N_nil _ _ _ _ _ | exact Kd.V_nil _ _ _ _ _ | exact Kd.Q_nil _ _ _ _ _ | exact Kd.S_nil _ _ _ _ _⟩, ⟨by repeat (first | (with_reducible first | exact HB.out | apply below_alloc | apply pw_below_drewN | apply below_drew1) | exact HB.out)⟩⟩
    case round =>
      clear H'
      try clear p2
      try clear c3
      try clear c3b0
      try clear c3b1
      obtain ⟨x0_1, x5_1, rfl, HA, HK1, HO_5, HB⟩ := hrel
      cases gk with
      | zero => exact absurd HA.out (by simp [net_zzSplit.l1])
      | succ k1 =>
        have H := HA.out
        clear HA
        simp only [net_zzSplit.l1] at H
        replace H := Option.bind_eq_some_iff.mp H
        obtain ⟨t101, A40, H⟩ := H
        replace H : (if t101 < 0 then (if x5_1.length < 8796093022208 then (some (x5_1 ++ [x0_1])) else (none)) else (if 0 ≤ t101 then (if t101 ≤ (x0_1.size : Int) then (if x5_1.length < 8796093022208 then (if 0 ≤ (wrap64 (t101 + (a1.size : Int))) then (if (wrap64 (t101 + (a1.size : Int))) ≤ (x0_1.size : Int) then (net_zzSplit.l1 k1 (x0_1.extract ((wrap64 (t101 + (a1.size : Int))) : Int).toNat x0_1.size) a1 (x5_1 ++ [x0_1.extract 0 (t101 : Int).toNat])) else (none)) else (none)) else (none)) else (none)) else (none))) = some r := H
        have A4 := Aside0.mk A40
        clear A40
        by_cases c5 : t101 < 0
        · rw [if_pos c5] at H
          have c5b0 : decide (t101 < 0) = true := decide_eq_true c5
          clear c5
          by_cases c6 : x5_1.length < 8796093022208
          · rw [if_pos c6] at H
            have LMc6 := Aside0.mk c6
            clear c6
            obtain ⟨y102, hy102⟩ : ∃ y_ : List ByteArray, y_ = (x5_1 ++ [x0_1]) := ⟨_, rfl⟩
            replace H : (some y102) = some r := by first | (rw [hy102]; with_reducible exact H) | (have H2_ := (Option.bind_some _ _).symm.trans H; rw [hy102]; with_reducible exact H2_) | (have H2_ := (Option.bind_some _ _).symm.trans H; with_reducible exact H2_) | with_reducible exact H | (rw [hy102]; exact H) | exact H
            have Ny102 := Aside0.mk hy102
            clear hy102
            obtain rfl := Option.some.inj H
            go_wp2_with (first | ((with_reducible refine gate_callee (f := 41) rfl ?_); refine goesL_ (some 39) rfl rfl Try.func41 (by kernel_rfl) rfl #[.string x0_1, .string a1] rfl (by (try simp only [List.map_toArray, List.map_cons, List.map_nil]); first | done | rfl | (simp only [List.length_drop, List.length_take]; rfl)) ?_; (with_reducible refine (net_zzIndex.calls k1 x0_1 a1 t101 _ A4.out).mono ?_); rintro e w' ⟨rfl, ⟨nd, rfl⟩⟩; refine ⟨_, rfl, ?_⟩) | ((with_reducible refine gate_builtin (b := .append) (xs := #[.tmp 42, .tmp 44]) rfl ?_); at_builtin; refine Kd.R_append Kd.string (w0 := w) w.heap.size rfl (.tmp 42) (.tmp 44) 32 9 (.string ⟨#[]⟩) 16 rfl Try.underlying32 info9 rfl (by decide) (by omega) u5 x5_1 x0_1 [.string x0_1] (fun _ => True) (fun _ => False) rfl rfl ?aP (fun _ hk => hk.elim) ?aF ?aO ?aB ?aS ?aL ?_; (case aP => exact rfl); (case aB => exact (by repeat (first | (with_reducible first | exact HB.out | apply below_alloc | apply pw_below_drewN | apply below_drew1) | exact HB.out))); (case aF => exact (fun _ _ => trivial)); (case aO => exact (by (with_reducible repeat (first | apply Kd.R_alloc | apply Kd.R_drewN | apply Kd.R_drew)); exact HO_5.out)); (case aS => exact (below_size (by repeat (first | (with_reducible first | exact HB.out | apply below_alloc | apply pw_below_drewN | apply below_drew1) | exact HB.out)))); (case aL => have := LMc6.out; omega); intro v103 w7 ho hb hg hat; rw [← Ny102.out] at ho; have n0_ := Aside0.mk (hb); have n1_ := Aside0.mk (ho); clear HB; clear HO_5; have HB := n0_; have HO104 := n1_; clear n0_ n1_; clear ho hb hg hat))
            go_ret
            exact ⟨_, by first | rfl | (simp [errW_none, errW_some] <;> rfl) | (simp [*, errW_none, errW_some] <;> rfl), by (with_reducible repeat (first | apply Kd.R_alloc | apply Kd.R_drewN | apply Kd.R_drew)); exact HO104.out, by repeat (first | (with_reducible first | exact HB.out | apply below_alloc | apply pw_below_drewN | apply below_drew1) | exact HB.out)⟩
          · rw [if_neg c6] at H
            exact absurd H (by simp)
        · rw [if_neg c5] at H
          have c5b0 : decide (t101 < 0) = false := decide_eq_false c5
          clear c5
          by_cases c8 : 0 ≤ t101
          · rw [if_pos c8] at H
            have c8b0 := eq_true c8
            have c8b1 : decide (0 ≤ t101) = true := decide_eq_true c8
            clear c8
            by_cases c9 : t101 ≤ (x0_1.size : Int)
            · rw [if_pos c9] at H
              have c9b0 := eq_true c9
              have c9b1 : decide (t101 ≤ (x0_1.size : Int)) = true := decide_eq_true c9
              clear c9
              by_cases c10 : x5_1.length < 8796093022208
              · rw [if_pos c10] at H
                have LMc10 := Aside0.mk c10
                clear c10
                obtain ⟨y105, hy105⟩ : ∃ y_ : List ByteArray, y_ = (x5_1 ++ [x0_1.extract 0 (t101 : Int).toNat]) := ⟨_, rfl⟩
                replace H : (if 0 ≤ (wrap64 (t101 + (a1.size : Int))) then (if (wrap64 (t101 + (a1.size : Int))) ≤ (x0_1.size : Int) then (net_zzSplit.l1 k1 (x0_1.extract ((wrap64 (t101 + (a1.size : Int))) : Int).toNat x0_1.size) a1 y105) else (none)) else (none)) = some r := by first | (rw [hy105]; with_reducible exact H) | (have H2_ := (Option.bind_some _ _).symm.trans H; rw [hy105]; with_reducible exact H2_) | (have H2_ := (Option.bind_some _ _).symm.trans H; with_reducible exact H2_) | with_reducible exact H | (rw [hy105]; exact H) | exact H
                have Ny105 := Aside0.mk hy105
                clear hy105
                obtain ⟨ji11, hji11⟩ : ∃ j_ : Int, (wrap64 (t101 + (a1.size : Int))) = j_ := ⟨_, rfl⟩
                replace H : (if 0 ≤ (ji11) then (if (ji11) ≤ (x0_1.size : Int) then (net_zzSplit.l1 k1 (x0_1.extract ((ji11) : Int).toNat x0_1.size) a1 y105) else (none)) else (none)) = some r := by first | (rw [hji11] at H; exact H) | (simp only [hji11] at H ⊢; exact H)
                (try rw [hji11] at A4)
                have hji11w : (IntKind.i64.wrap (t101 + (a1.size : Int))) = ji11 := (i64_w _).trans hji11
                by_cases c12 : 0 ≤ (ji11)
                · rw [if_pos c12] at H
                  have c12b0 := eq_true c12
                  have c12b1 : decide (0 ≤ (ji11)) = true := decide_eq_true c12
                  clear c12
                  by_cases c13 : (ji11) ≤ (x0_1.size : Int)
                  · rw [if_pos c13] at H
                    have c13b0 := eq_true c13
                    have c13b1 : decide ((ji11) ≤ (x0_1.size : Int)) = true := decide_eq_true c13
                    clear c13
                    have H' := Aside0.mk H
                    clear H
                    go_wp2_with (first | ((with_reducible refine gate_callee (f := 41) rfl ?_); refine goesL_ (some 39) rfl rfl Try.func41 (by kernel_rfl) rfl #[.string x0_1, .string a1] rfl (by (try simp only [List.map_toArray, List.map_cons, List.map_nil]); first | done | rfl | (simp only [List.length_drop, List.length_take]; rfl)) ?_; (with_reducible refine (net_zzIndex.calls k1 x0_1 a1 t101 _ A4.out).mono ?_); rintro e w' ⟨rfl, ⟨nd, rfl⟩⟩; refine ⟨_, rfl, ?_⟩) | ((with_reducible refine gate_builtin (b := .append) (xs := #[.tmp 46, .tmp 50]) rfl ?_); at_builtin; refine Kd.R_append Kd.string (w0 := w) w.heap.size rfl (.tmp 46) (.tmp 50) 32 9 (.string ⟨#[]⟩) 16 rfl Try.underlying32 info9 rfl (by decide) (by omega) u5 x5_1 (x0_1.extract 0 (t101 : Int).toNat) [.string (x0_1.extract 0 (t101 : Int).toNat)] (fun _ => True) (fun _ => False) rfl rfl ?aP (fun _ hk => hk.elim) ?aF ?aO ?aB ?aS ?aL ?_; (case aP => exact rfl); (case aB => exact (by repeat (first | (with_reducible first | exact HB.out | apply below_alloc | apply pw_below_drewN | apply below_drew1) | exact HB.out))); (case aF => exact (fun _ _ => trivial)); (case aO => exact (by (with_reducible repeat (first | apply Kd.R_alloc | apply Kd.R_drewN | apply Kd.R_drew)); exact HO_5.out)); (case aS => exact (below_size (by repeat (first | (with_reducible first | exact HB.out | apply below_alloc | apply pw_below_drewN | apply below_drew1) | exact HB.out)))); (case aL => have := LMc10.out; omega); intro v106 w14 ho hb hg hat; rw [← Ny105.out] at ho; have n0_ := Aside0.mk (hb); have n1_ := Aside0.mk (ho); clear HB; clear HO_5; have HB := n0_; have HO107 := n1_; clear n0_ n1_; clear ho hb hg hat))
                    go_roundg k1
                    case measure => have := HK1.out; omega
                    case rel => exact ⟨(x0_1.extract ((ji11) : Int).toNat x0_1.size), (y105), (by first | rfl | (simp; done) | (simp only [← hji11] <;> (first | rfl | simp)) | (simp [*]; done)), H', ⟨by have := HK1.out; omega⟩, ⟨by (with_reducible repeat (first | apply Kd.R_alloc | apply Kd.R_drewN | apply Kd.R_drew)); exact HO107.out⟩, ⟨by repeat (first | (with_reducible first | exact HB.out | apply below_alloc | apply pw_below_drewN | apply below_drew1) | exact HB.out)⟩⟩
                  · rw [if_neg c13] at H
                    exact absurd H (by simp)
                · rw [if_neg c12] at H
                  exact absurd H (by simp)
              · rw [if_neg c10] at H
                exact absurd H (by simp)
            · rw [if_neg c9] at H
              exact absurd H (by simp)
          · rw [if_neg c8] at H
            exact absurd H (by simp)

/-! ### net_SplitSchemeNamePort: function 31 -/
def net_SplitSchemeNamePort.f (k : Nat) (a0 : ByteArray) : Option (ByteArray × ByteArray × ByteArray × Bool) := (net_zzSplit.f k a0 (⟨#[58]⟩ : ByteArray)).bind fun t108 => (if (t108.length : Int) = 1 then (if 0 < (t108.length : Int) then (if ((rdOf ByteArray.empty t108 0).size : Int) > 0 then (if ([] : List UInt8) = ([104, 116, 116, 112] : List UInt8) then (some ((⟨#[]⟩ : ByteArray), rdOf ByteArray.empty t108 0, (⟨#[]⟩ : ByteArray), true)) else (if ([] : List UInt8) = ([104, 116, 116, 112, 115] : List UInt8) then (some ((⟨#[]⟩ : ByteArray), rdOf ByteArray.empty t108 0, (⟨#[]⟩ : ByteArray), true)) else (if ([] : List UInt8) = ([] : List UInt8) then (some ((⟨#[]⟩ : ByteArray), rdOf ByteArray.empty t108 0, (⟨#[]⟩ : ByteArray), true)) else (some ((⟨#[]⟩ : ByteArray), (⟨#[]⟩ : ByteArray), (⟨#[]⟩ : ByteArray), false))))) else (some ((⟨#[]⟩ : ByteArray), (⟨#[]⟩ : ByteArray), (⟨#[]⟩ : ByteArray), false))) else (none)) else (if (t108.length : Int) = 2 then (if 0 < (t108.length : Int) then (if 1 < (t108.length : Int) then (if ((rdOf ByteArray.empty t108 0).size : Int) > 0 then (if ([] : List UInt8) = ([104, 116, 116, 112] : List UInt8) then (some ((⟨#[]⟩ : ByteArray), rdOf ByteArray.empty t108 0, rdOf ByteArray.empty t108 1, true)) else (if ([] : List UInt8) = ([104, 116, 116, 112, 115] : List UInt8) then (some ((⟨#[]⟩ : ByteArray), rdOf ByteArray.empty t108 0, rdOf ByteArray.empty t108 1, true)) else (if ([] : List UInt8) = ([] : List UInt8) then (some ((⟨#[]⟩ : ByteArray), rdOf ByteArray.empty t108 0, rdOf ByteArray.empty t108 1, true)) else (some ((⟨#[]⟩ : ByteArray), (⟨#[]⟩ : ByteArray), (⟨#[]⟩ : ByteArray), false))))) else (some ((⟨#[]⟩ : ByteArray), (⟨#[]⟩ : ByteArray), (⟨#[]⟩ : ByteArray), false))) else (none)) else (none)) else (if (t108.length : Int) = 3 then (if 0 < (t108.length : Int) then (if 1 < (t108.length : Int) then (if 2 < (t108.length : Int) then (if ((rdOf ByteArray.empty t108 1).size : Int) > 0 then (if (rdOf ByteArray.empty t108 0).toList = ([104, 116, 116, 112] : List UInt8) then (some (rdOf ByteArray.empty t108 0, rdOf ByteArray.empty t108 1, rdOf ByteArray.empty t108 2, true)) else (if (rdOf ByteArray.empty t108 0).toList = ([104, 116, 116, 112, 115] : List UInt8) then (some (rdOf ByteArray.empty t108 0, rdOf ByteArray.empty t108 1, rdOf ByteArray.empty t108 2, true)) else (if (rdOf ByteArray.empty t108 0).toList = ([] : List UInt8) then (some (rdOf ByteArray.empty t108 0, rdOf ByteArray.empty t108 1, rdOf ByteArray.empty t108 2, true)) else (some ((⟨#[]⟩ : ByteArray), (⟨#[]⟩ : ByteArray), (⟨#[]⟩ : ByteArray), false))))) else (some ((⟨#[]⟩ : ByteArray), (⟨#[]⟩ : ByteArray), (⟨#[]⟩ : ByteArray), false))) else (none)) else (none)) else (none)) else (some ((⟨#[]⟩ : ByteArray), (⟨#[]⟩ : ByteArray), (⟨#[]⟩ : ByteArray), false)))))
theorem net_SplitSchemeNamePort.mono : ∀ a0 k, LeO (net_SplitSchemeNamePort.f k a0) (net_SplitSchemeNamePort.f (k + 1) a0) := by
  intro a0 k
  unfold net_SplitSchemeNamePort.f
  repeat' first
      | (with_reducible exact net_zzSplit.mono _ _ _)
      | (with_reducible exact LeO.refl _)
      | (with_reducible exact LeO.none _)
      | (with_reducible refine LeO.ite ?_ ?_)
      | (with_reducible refine LeO.bind ?_ (fun _ => ?_))
      | exact net_zzSplit.mono _ _ _
      | exact LeO.none _
      | refine LeO.ite ?_ ?_
      | refine LeO.bind ?_ (fun _ => ?_)
set_option maxHeartbeats 8000000 in
set_option maxRecDepth 100000 in
theorem net_SplitSchemeNamePort.calls (k : Nat) (a0 : ByteArray) (r1 : ByteArray) (r2 : ByteArray) (r3 : ByteArray) (r4 : Bool) (w : World) (h : net_SplitSchemeNamePort.f k a0 = some (r1, r2, r3, r4)) :
    Calls Try.prog 31 #[.string a0] w fun e w' => e = .returned (.tuple #[.string r1, .string r2, .string r3, .bool r4]) ∧ Below w.heap.size w w' := by
  have HB := Aside0.mk (Below.refl w.heap.size w)
  have H : ((net_zzSplit.f k a0 (⟨#[58]⟩ : ByteArray)).bind fun t108 => (if (t108.length : Int) = 1 then (if 0 < (t108.length : Int) then (if ((rdOf ByteArray.empty t108 0).size : Int) > 0 then (if ([] : List UInt8) = ([104, 116, 116, 112] : List UInt8) then (some ((⟨#[]⟩ : ByteArray), rdOf ByteArray.empty t108 0, (⟨#[]⟩ : ByteArray), true)) else (if ([] : List UInt8) = ([104, 116, 116, 112, 115] : List UInt8) then (some ((⟨#[]⟩ : ByteArray), rdOf ByteArray.empty t108 0, (⟨#[]⟩ : ByteArray), true)) else (if ([] : List UInt8) = ([] : List UInt8) then (some ((⟨#[]⟩ : ByteArray), rdOf ByteArray.empty t108 0, (⟨#[]⟩ : ByteArray), true)) else (some ((⟨#[]⟩ : ByteArray), (⟨#[]⟩ : ByteArray), (⟨#[]⟩ : ByteArray), false))))) else (some ((⟨#[]⟩ : ByteArray), (⟨#[]⟩ : ByteArray), (⟨#[]⟩ : ByteArray), false))) else (none)) else (if (t108.length : Int) = 2 then (if 0 < (t108.length : Int) then (if 1 < (t108.length : Int) then (if ((rdOf ByteArray.empty t108 0).size : Int) > 0 then (if ([] : List UInt8) = ([104, 116, 116, 112] : List UInt8) then (some ((⟨#[]⟩ : ByteArray), rdOf ByteArray.empty t108 0, rdOf ByteArray.empty t108 1, true)) else (if ([] : List UInt8) = ([104, 116, 116, 112, 115] : List UInt8) then (some ((⟨#[]⟩ : ByteArray), rdOf ByteArray.empty t108 0, rdOf ByteArray.empty t108 1, true)) else (if ([] : List UInt8) = ([] : List UInt8) then (some ((⟨#[]⟩ : ByteArray), rdOf ByteArray.empty t108 0, rdOf ByteArray.empty t108 1, true)) else (some ((⟨#[]⟩ : ByteArray), (⟨#[]⟩ : ByteArray), (⟨#[]⟩ : ByteArray), false))))) else (some ((⟨#[]⟩ : ByteArray), (⟨#[]⟩ : ByteArray), (⟨#[]⟩ : ByteArray), false))) else (none)) else (none)) else (if (t108.length : Int) = 3 then (if 0 < (t108.length : Int) then (if 1 < (t108.length : Int) then (if 2 < (t108.length : Int) then (if ((rdOf ByteArray.empty t108 1).size : Int) > 0 then (if (rdOf ByteArray.empty t108 0).toList = ([104, 116, 116, 112] : List UInt8) then (some (rdOf ByteArray.empty t108 0, rdOf ByteArray.empty t108 1, rdOf ByteArray.empty t108 2, true)) else (if (rdOf ByteArray.empty t108 0).toList = ([104, 116, 116, 112, 115] : List UInt8) then (some (rdOf ByteArray.empty t108 0, rdOf ByteArray.empty t108 1, rdOf ByteArray.empty t108 2, true)) else (if (rdOf ByteArray.empty t108 0).toList = ([] : List UInt8) then (some (rdOf ByteArray.empty t108 0, rdOf ByteArray.empty t108 1, rdOf ByteArray.empty t108 2, true)) else (some ((⟨#[]⟩ : ByteArray), (⟨#[]⟩ : ByteArray), (⟨#[]⟩ : ByteArray), false))))) else (some ((⟨#[]⟩ : ByteArray), (⟨#[]⟩ : ByteArray), (⟨#[]⟩ : ByteArray), false))) else (none)) else (none)) else (none)) else (some ((⟨#[]⟩ : ByteArray), (⟨#[]⟩ : ByteArray), (⟨#[]⟩ : ByteArray), false)))))) = some (r1, r2, r3, r4) := h
  clear h
  replace H := Option.bind_eq_some_iff.mp H
  obtain ⟨t108, A20, H⟩ := H
  replace H : (if (t108.length : Int) = 1 then (if 0 < (t108.length : Int) then (if ((rdOf ByteArray.empty t108 0).size : Int) > 0 then (if ([] : List UInt8) = ([104, 116, 116, 112] : List UInt8) then (some ((⟨#[]⟩ : ByteArray), rdOf ByteArray.empty t108 0, (⟨#[]⟩ : ByteArray), true)) else (if ([] : List UInt8) = ([104, 116, 116, 112, 115] : List UInt8) then (some ((⟨#[]⟩ : ByteArray), rdOf ByteArray.empty t108 0, (⟨#[]⟩ : ByteArray), true)) else (if ([] : List UInt8) = ([] : List UInt8) then (some ((⟨#[]⟩ : ByteArray), rdOf ByteArray.empty t108 0, (⟨#[]⟩ : ByteArray), true)) else (some ((⟨#[]⟩ : ByteArray), (⟨#[]⟩ : ByteArray), (⟨#[]⟩ : ByteArray), false))))) else (some ((⟨#[]⟩ : ByteArray), (⟨#[]⟩ : ByteArray), (⟨#[]⟩ : ByteArray), false))) else (none)) else (if (t108.length : Int) = 2 then (if 0 < (t108.length : Int) then (if 1 < (t108.length : Int) then (if ((rdOf ByteArray.empty t108 0).size : Int) > 0 then (if ([] : List UInt8) = ([104, 116, 116, 112] : List UInt8) then (some ((⟨#[]⟩ : ByteArray), rdOf ByteArray.empty t108 0, rdOf ByteArray.empty t108 1, true)) else (if ([] : List UInt8) = ([104, 116, 116, 112, 115] : List UInt8) then (some ((⟨#[]⟩ : ByteArray), rdOf ByteArray.empty t108 0, rdOf ByteArray.empty t108 1, true)) else (if ([] : List UInt8) = ([] : List UInt8) then (some ((⟨#[]⟩ : ByteArray), rdOf ByteArray.empty t108 0, rdOf ByteArray.empty t108 1, true)) else (some ((⟨#[]⟩ : ByteArray), (⟨#[]⟩ : ByteArray), (⟨#[]⟩ : ByteArray), false))))) else (some ((⟨#[]⟩ : ByteArray), (⟨#[]⟩ : ByteArray), (⟨#[]⟩ : ByteArray), false))) else (none)) else (none)) else (if (t108.length : Int) = 3 then (if 0 < (t108.length : Int) then (if 1 < (t108.length : Int) then (if 2 < (t108.length : Int) then (if ((rdOf ByteArray.empty t108 1).size : Int) > 0 then (if (rdOf ByteArray.empty t108 0).toList = ([104, 116, 116, 112] : List UInt8) then (some (rdOf ByteArray.empty t108 0, rdOf ByteArray.empty t108 1, rdOf ByteArray.empty t108 2, true)) else (if (rdOf ByteArray.empty t108 0).toList = ([104, 116, 116, 112, 115] : List UInt8) then (some (rdOf ByteArray.empty t108 0, rdOf ByteArray.empty t108 1, rdOf ByteArray.empty t108 2, true)) else (if (rdOf ByteArray.empty t108 0).toList = ([] : List UInt8) then (some (rdOf ByteArray.empty t108 0, rdOf ByteArray.empty t108 1, rdOf ByteArray.empty t108 2, true)) else (some ((⟨#[]⟩ : ByteArray), (⟨#[]⟩ : ByteArray), (⟨#[]⟩ : ByteArray), false))))) else (some ((⟨#[]⟩ : ByteArray), (⟨#[]⟩ : ByteArray), (⟨#[]⟩ : ByteArray), false))) else (none)) else (none)) else (none)) else (some ((⟨#[]⟩ : ByteArray), (⟨#[]⟩ : ByteArray), (⟨#[]⟩ : ByteArray), false))))) = some (r1, r2, r3, r4) := H
  have A2 := Aside0.mk A20
  clear A20
  by_cases c3 : (t108.length : Int) = 1
  · rw [if_pos c3] at H
    have c3b0 : ((t108.length : Int) == 1) = true := beq_iff_eq.mpr c3
    have c3b1 : ((t108.length : Int) != 1) = false := bne_eq_false_iff_eq.mpr c3
    clear c3
    by_cases c4 : 0 < (t108.length : Int)
    · rw [if_pos c4] at H
      have c4b0 : decide (0 < (t108.length : Int)) = true := decide_eq_true c4
      have c4b1 : decide (0 < t108.length) = true := decide_eq_true (by omega)
      clear c4
      by_cases c5 : ((rdOf ByteArray.empty t108 0).size : Int) > 0
      · rw [if_pos c5] at H
        have c5b0 : decide (0 < ((rdOf ByteArray.empty t108 0).size : Int)) = true := decide_eq_true c5
        have c5b1 : decide (0 < (rdOf ByteArray.empty t108 0).size) = true := decide_eq_true (by omega)
        clear c5
        by_cases c6 : ([] : List UInt8) = ([104, 116, 116, 112] : List UInt8)
        · rw [if_pos c6] at H
          have c6b0 : (([] : List UInt8) == ([104, 116, 116, 112] : List UInt8)) = true := beq_iff_eq.mpr c6
          have c6b1 : (([] : List UInt8) != ([104, 116, 116, 112] : List UInt8)) = false := bne_eq_false_iff_eq.mpr c6
          clear c6
          simp only [Option.some.injEq, Prod.mk.injEq] at H
          obtain ⟨rfl, rfl, rfl, rfl⟩ := H
          go_enter Try.func31, Try.ntmps31
          go_wp2_with (first | ((with_reducible refine gate_callee (f := 39) rfl ?_); refine goesL_ (some 8) rfl rfl Try.func39 (by kernel_rfl) rfl #[.string a0, .string (⟨#[58]⟩ : ByteArray)] rfl (by (try simp only [List.map_toArray, List.map_cons, List.map_nil]); first | done | rfl | (simp only [List.length_drop, List.length_take]; rfl)) ?_; (with_reducible refine (net_zzSplit.calls k a0 (⟨#[58]⟩ : ByteArray) t108 _ A2.out).mono ?_); rintro e w7 ⟨v109, rfl, ho0, hb⟩; refine ⟨_, rfl, ?_⟩; have n0_ := Aside0.mk (Kd.R_lower ho0 (below_size (by repeat (first | (with_reducible first | exact HB.out | apply below_alloc | apply pw_below_drewN | apply below_drew1) | exact HB.out)))); have n1_ := Aside0.mk (below_step (by repeat (first | (with_reducible first | exact HB.out | apply below_alloc | apply pw_below_drewN | apply below_drew1) | exact HB.out)) hb); clear HB; have HO110 := n0_; have HB := n1_; clear n0_ n1_; (try clear hb); (try clear hb2); (try clear hk); (try clear hi); (try clear ho0); obtain ⟨Ao8, co8, eo8⟩ := Kd.R_slice HO110.out; subst eo8; have p111 : 0 ≤ (0 : Int) := (by omega); have q111 : 0 < (t108.length : Int) := of_decide_eq_true (by first | (with_reducible assumption) | assumption); obtain ⟨ad111, e111, hx111_0⟩ := Kd.at_string (Kd.R_reads' HO110.out).2.2 0 p111 q111; cases e111; have qi111 : (0 < t108.length) = True := eq_true (by omega); (try rw [show ((0 : Int)).toNat = 0 from rfl] at hx111_0); (try rw [Addr.add_zero'] at hx111_0); replace p111 := eq_true p111; replace q111 := eq_true q111))
          refine bodyPost_ret (results_list (rs := [.tmp 2, .tmp 3, .tmp 4, .tmp 5]) rfl (by simp) (.tmp (.tmp (.tmp (.tmp .nil))))) rfl ?_
          exact ⟨by first | rfl | (simp [errW_none, errW_some] <;> rfl) | (simp [*, errW_none, errW_some] <;> rfl) | (exfalso; contradiction), by repeat (first | (with_reducible first | exact HB.out | apply below_alloc | apply pw_below_drewN | apply below_drew1) | exact HB.out)⟩
        · rw [if_neg c6] at H
          have c6b0 : (([] : List UInt8) == ([104, 116, 116, 112] : List UInt8)) = false := beq_eq_false_iff_ne.mpr c6
          have c6b1 : (([] : List UInt8) != ([104, 116, 116, 112] : List UInt8)) = true := bne_iff_ne.mpr c6
          by_cases c9 : ([] : List UInt8) = ([104, 116, 116, 112, 115] : List UInt8)
          · rw [if_pos c9] at H
            have c9b0 : (([] : List UInt8) == ([104, 116, 116, 112, 115] : List UInt8)) = true := beq_iff_eq.mpr c9
            have c9b1 : (([] : List UInt8) != ([104, 116, 116, 112, 115] : List UInt8)) = false := bne_eq_false_iff_eq.mpr c9
            clear c9
            simp only [Option.some.injEq, Prod.mk.injEq] at H
            obtain ⟨rfl, rfl, rfl, rfl⟩ := H
            go_enter Try.func31, Try.ntmps31
            go_wp2_with (first | ((with_reducible refine gate_callee (f := 39) rfl ?_); refine goesL_ (some 8) rfl rfl Try.func39 (by kernel_rfl) rfl #[.string a0, .string (⟨#[58]⟩ : ByteArray)] rfl (by (try simp only [List.map_toArray, List.map_cons, List.map_nil]); first | done | rfl | (simp only [List.length_drop, List.length_take]; rfl)) ?_; (with_reducible refine (net_zzSplit.calls k a0 (⟨#[58]⟩ : ByteArray) t108 _ A2.out).mono ?_); rintro e w10 ⟨v109, rfl, ho0, hb⟩; refine ⟨_, rfl, ?_⟩; have n0_ := Aside0.mk (Kd.R_lower ho0 (below_size (by repeat (first | (with_reducible first | exact HB.out | apply below_alloc | apply pw_below_drewN | apply below_drew1) | exact HB.out)))); have n1_ := Aside0.mk (below_step (by repeat (first | (with_reducible first | exact HB.out | apply below_alloc | apply pw_below_drewN | apply below_drew1) | exact HB.out)) hb); clear HB; have HO110 := n0_; have HB := n1_; clear n0_ n1_; (try clear hb); (try clear hb2); (try clear hk); (try clear hi); (try clear ho0); obtain ⟨Ao11, co11, eo11⟩ := Kd.R_slice HO110.out; subst eo11; have p111 : 0 ≤ (0 : Int) := (by omega); have q111 : 0 < (t108.length : Int) := of_decide_eq_true (by first | (with_reducible assumption) | assumption); obtain ⟨ad111, e111, hx111_0⟩ := Kd.at_string (Kd.R_reads' HO110.out).2.2 0 p111 q111; cases e111; have qi111 : (0 < t108.length) = True := eq_true (by omega); (try rw [show ((0 : Int)).toNat = 0 from rfl] at hx111_0); (try rw [Addr.add_zero'] at hx111_0); replace p111 := eq_true p111; replace q111 := eq_true q111))
            refine bodyPost_ret (results_list (rs := [.tmp 2, .tmp 3, .tmp 4, .tmp 5]) rfl (by simp) (.tmp (.tmp (.tmp (.tmp .nil))))) rfl ?_
            exact ⟨by first | rfl | (simp [errW_none, errW_some] <;> rfl) | (simp [*, errW_none, errW_some] <;> rfl) | (exfalso; contradiction), by repeat (first | (with_reducible first | exact HB.out | apply below_alloc | apply pw_below_drewN | apply below_drew1) | exact HB.out)⟩
          · rw [if_neg c9] at H
            have c9b0 : (([] : List UInt8) == ([104, 116, 116, 112, 115] : List UInt8)) = false := beq_eq_false_iff_ne.mpr c9
            have c9b1 : (([] : List UInt8) != ([104, 116, 116, 112, 115] : List UInt8)) = true := bne_iff_ne.mpr c9
            by_cases c12 : ([] : List UInt8) = ([] : List UInt8)
            · rw [if_pos c12] at H
              have c12b0 : (([] : List UInt8) == ([] : List UInt8)) = true := beq_iff_eq.mpr c12
              have c12b1 : (([] : List UInt8) != ([] : List UInt8)) = false := bne_eq_false_iff_eq.mpr c12
              clear c12
              simp only [Option.some.injEq, Prod.mk.injEq] at H
              obtain ⟨rfl, rfl, rfl, rfl⟩ := H
              go_enter Try.func31, Try.ntmps31
              go_wp2_with (first | ((with_reducible refine gate_callee (f := 39) rfl ?_); refine goesL_ (some 8) rfl rfl Try.func39 (by kernel_rfl) rfl #[.string a0, .string (⟨#[58]⟩ : ByteArray)] rfl (by (try simp only [List.map_toArray, List.map_cons, List.map_nil]); first | done | rfl | (simp only [List.length_drop, List.length_take]; rfl)) ?_; (with_reducible refine (net_zzSplit.calls k a0 (⟨#[58]⟩ : ByteArray) t108 _ A2.out).mono ?_); rintro e w13 ⟨v109, rfl, ho0, hb⟩; refine ⟨_, rfl, ?_⟩; have n0_ := Aside0.mk (Kd.R_lower ho0 (below_size (by repeat (first | (with_reducible first | exact HB.out | apply below_alloc | apply pw_below_drewN | apply below_drew1) | exact HB.out)))); have n1_ := Aside0.mk (below_step (by repeat (first | (with_reducible first | exact HB.out | apply below_alloc | apply pw_below_drewN | apply below_drew1) | exact HB.out)) hb); clear HB; have HO110 := n0_; have HB := n1_; clear n0_ n1_; (try clear hb); (try clear hb2); (try clear hk); (try clear hi); (try clear ho0); obtain ⟨Ao14, co14, eo14⟩ := Kd.R_slice HO110.out; subst eo14; have p111 : 0 ≤ (0 : Int) := (by omega); have q111 : 0 < (t108.length : Int) := of_decide_eq_true (by first | (with_reducible assumption) | assumption); obtain ⟨ad111, e111, hx111_0⟩ := Kd.at_string (Kd.R_reads' HO110.out).2.2 0 p111 q111; cases e111; have qi111 : (0 < t108.length) = True := eq_true (by omega); (try rw [show ((0 : Int)).toNat = 0 from rfl] at hx111_0); (try rw [Addr.add_zero'] at hx111_0); replace p111 := eq_true p111; replace q111 := eq_true q111))
              refine bodyPost_ret (results_list (rs := [.tmp 2, .tmp 3, .tmp 4, .tmp 5]) rfl (by simp) (.tmp (.tmp (.tmp (.tmp .nil))))) rfl ?_
              exact ⟨by first | rfl | (simp [errW_none, errW_some] <;> rfl) | (simp [*, errW_none, errW_some] <;> rfl) | (exfalso; contradiction), by repeat (first | (with_reducible first | exact HB.out | apply below_alloc | apply pw_below_drewN | apply below_drew1) | exact HB.out)⟩
            · rw [if_neg c12] at H
              have c12b0 : (([] : List UInt8) == ([] : List UInt8)) = false := beq_eq_false_iff_ne.mpr c12
              have c12b1 : (([] : List UInt8) != ([] : List UInt8)) = true := bne_iff_ne.mpr c12
              simp only [Option.some.injEq, Prod.mk.injEq] at H
              obtain ⟨rfl, rfl, rfl, rfl⟩ := H
              go_enter Try.func31, Try.ntmps31
              go_wp2_with (first | ((with_reducible refine gate_callee (f := 39) rfl ?_); refine goesL_ (some 8) rfl rfl Try.func39 (by kernel_rfl) rfl #[.string a0, .string (⟨#[58]⟩ : ByteArray)] rfl (by (try simp only [List.map_toArray, List.map_cons, List.map_nil]); first | done | rfl | (simp only [List.length_drop, List.length_take]; rfl)) ?_; (with_reducible refine (net_zzSplit.calls k a0 (⟨#[58]⟩ : ByteArray) t108 _ A2.out).mono ?_); rintro e w15 ⟨v109, rfl, ho0, hb⟩; refine ⟨_, rfl, ?_⟩; have n0_ := Aside0.mk (Kd.R_lower ho0 (below_size (by repeat (first | (with_reducible first | exact HB.out | apply below_alloc | apply pw_below_drewN | apply below_drew1) | exact HB.out)))); have n1_ := Aside0.mk (below_step (by repeat (first | (with_reducible first | exact HB.out | apply below_alloc | apply pw_below_drewN | apply below_drew1) | exact HB.out)) hb); clear HB; have HO110 := n0_; have HB := n1_; clear n0_ n1_; (try clear hb); (try clear hb2); (try clear hk); (try clear hi); (try clear ho0); obtain ⟨Ao16, co16, eo16⟩ := Kd.R_slice HO110.out; subst eo16; have p111 : 0 ≤ (0 : Int) := (by omega); have q111 : 0 < (t108.length : Int) := of_decide_eq_true (by first | (with_reducible assumption) | assumption); obtain ⟨ad111, e111, hx111_0⟩ := Kd.at_string (Kd.R_reads' HO110.out).2.2 0 p111 q111; cases e111; have qi111 : (0 < t108.length) = True := eq_true (by omega); (try rw [show ((0 : Int)).toNat = 0 from rfl] at hx111_0); (try rw [Addr.add_zero'] at hx111_0); replace p111 := eq_true p111; replace q111 := eq_true q111))
              refine bodyPost_ret (results_list (rs := [.tmp 2, .tmp 3, .tmp 4, .tmp 5]) rfl (by simp) (.tmp (.tmp (.tmp (.tmp .nil))))) rfl ?_
              exact ⟨by first | rfl | (simp [errW_none, errW_some] <;> rfl) | (simp [*, errW_none, errW_some] <;> rfl) | (exfalso; contradiction), by repeat (first | (with_reducible first | exact HB.out | apply below_alloc | apply pw_below_drewN | apply below_drew1) | exact HB.out)⟩
      · rw [if_neg c5] at H
        have c5b0 : decide (0 < ((rdOf ByteArray.empty t108 0).size : Int)) = false := decide_eq_false c5
        have c5b1 : decide (0 < (rdOf ByteArray.empty t108 0).size) = false := decide_eq_false (by omega)
        clear c5
        simp only [Option.some.injEq, Prod.mk.injEq] at H
        obtain ⟨rfl, rfl, rfl, rfl⟩ := H
        go_enter Try.func31, Try.ntmps31
        go_wp2_with (first | ((with_reducible refine gate_callee (f := 39) rfl ?_); refine goesL_ (some 8) rfl rfl Try.func39 (by kernel_rfl) rfl #[.string a0, .string (⟨#[58]⟩ : ByteArray)] rfl (by (try simp only [List.map_toArray, List.map_cons, List.map_nil]); first | done | rfl | (simp only [List.length_drop, List.length_take]; rfl)) ?_; (with_reducible refine (net_zzSplit.calls k a0 (⟨#[58]⟩ : ByteArray) t108 _ A2.out).mono ?_); rintro e w17 ⟨v109, rfl, ho0, hb⟩; refine ⟨_, rfl, ?_⟩; have n0_ := Aside0.mk (Kd.R_lower ho0 (below_size (by repeat (first | (with_reducible first | exact HB.out | apply below_alloc | apply pw_below_drewN | apply below_drew1) | exact HB.out)))); have n1_ := Aside0.mk (below_step (by repeat (first | (with_reducible first | exact HB.out | apply below_alloc | apply pw_below_drewN | apply below_drew1) | exact HB.out)) hb); clear HB; have HO110 := n0_; have HB := n1_; clear n0_ n1_; (try clear hb); (try clear hb2); (try clear hk); (try clear hi); (try clear ho0); obtain ⟨Ao18, co18, eo18⟩ := Kd.R_slice HO110.out; subst eo18; have p111 : 0 ≤ (0 : Int) := (by omega); have q111 : 0 < (t108.length : Int) := of_decide_eq_true (by first | (with_reducible assumption) | assumption); obtain ⟨ad111, e111, hx111_0⟩ := Kd.at_string (Kd.R_reads' HO110.out).2.2 0 p111 q111; cases e111; have qi111 : (0 < t108.length) = True := eq_true (by omega); (try rw [show ((0 : Int)).toNat = 0 from rfl] at hx111_0); (try rw [Addr.add_zero'] at hx111_0); replace p111 := eq_true p111; replace q111 := eq_true q111))
        refine bodyPost_ret (results_list (rs := [.tmp 2, .tmp 3, .tmp 4, .tmp 5]) rfl (by simp) (.tmp (.tmp (.tmp (.tmp .nil))))) rfl ?_
        exact ⟨by first | rfl | (simp [errW_none, errW_some] <;> rfl) | (simp [*, errW_none, errW_some] <;> rfl) | (exfalso; contradiction), by repeat (first | (with_reducible first | exact HB.out | apply below_alloc | apply pw_below_drewN | apply below_drew1) | exact HB.out)⟩
    · rw [if_neg c4] at H
      exact absurd H (by simp)
  · rw [if_neg c3] at H
    have c3b0 : ((t108.length : Int) == 1) = false := beq_eq_false_iff_ne.mpr c3
    have c3b1 : ((t108.length : Int) != 1) = true := bne_iff_ne.mpr c3
    by_cases c19 : (t108.length : Int) = 2
    · rw [if_pos c19] at H
      have c19b0 : ((t108.length : Int) == 2) = true := beq_iff_eq.mpr c19
      have c19b1 : ((t108.length : Int) != 2) = false := bne_eq_false_iff_eq.mpr c19
      clear c19
      by_cases c20 : 0 < (t108.length : Int)
      · rw [if_pos c20] at H
        have c20b0 : decide (0 < (t108.length : Int)) = true := decide_eq_true c20
        have c20b1 : decide (0 < t108.length) = true := decide_eq_true (by omega)
        clear c20
        by_cases c21 : 1 < (t108.length : Int)
        · rw [if_pos c21] at H
          have c21b0 : decide (1 < (t108.length : Int)) = true := decide_eq_true c21
          have c21b1 : decide (1 < t108.length) = true := decide_eq_true (by omega)
          clear c21
          by_cases c22 : ((rdOf ByteArray.empty t108 0).size : Int) > 0
          · rw [if_pos c22] at H
            have c22b0 : decide (0 < ((rdOf ByteArray.empty t108 0).size : Int)) = true := decide_eq_true c22
            have c22b1 : decide (0 < (rdOf ByteArray.empty t108 0).size) = true := decide_eq_true (by omega)
            clear c22
            by_cases c23 : ([] : List UInt8) = ([104, 116, 116, 112] : List UInt8)
            · rw [if_pos c23] at H
              have c23b0 : (([] : List UInt8) == ([104, 116, 116, 112] : List UInt8)) = true := beq_iff_eq.mpr c23
              have c23b1 : (([] : List UInt8) != ([104, 116, 116, 112] : List UInt8)) = false := bne_eq_false_iff_eq.mpr c23
              clear c23
              simp only [Option.some.injEq, Prod.mk.injEq] at H
              obtain ⟨rfl, rfl, rfl, rfl⟩ := H
              go_enter Try.func31, Try.ntmps31
              go_wp2_with (first | ((with_reducible refine gate_callee (f := 39) rfl ?_); refine goesL_ (some 8) rfl rfl Try.func39 (by kernel_rfl) rfl #[.string a0, .string (⟨#[58]⟩ : ByteArray)] rfl (by (try simp only [List.map_toArray, List.map_cons, List.map_nil]); first | done | rfl | (simp only [List.length_drop, List.length_take]; rfl)) ?_; (with_reducible refine (net_zzSplit.calls k a0 (⟨#[58]⟩ : ByteArray) t108 _ A2.out).mono ?_); rintro e w24 ⟨v109, rfl, ho0, hb⟩; refine ⟨_, rfl, ?_⟩; have n0_ := Aside0.mk (Kd.R_lower ho0 (below_size (by repeat (first | (with_reducible first | exact HB.out | apply below_alloc | apply pw_below_drewN | apply below_drew1) | exact HB.out)))); have n1_ := Aside0.mk (below_step (by repeat (first | (with_reducible first | exact HB.out | apply below_alloc | apply pw_below_drewN | apply below_drew1) | exact HB.out)) hb); clear HB; have HO110 := n0_; have HB := n1_; clear n0_ n1_; (try clear hb); (try clear hb2); (try clear hk); (try clear hi); (try clear ho0); obtain ⟨Ao25, co25, eo25⟩ := Kd.R_slice HO110.out; subst eo25; have p112 : 0 ≤ (0 : Int) := (by omega); have q112 : 0 < (t108.length : Int) := of_decide_eq_true (by first | (with_reducible assumption) | assumption); obtain ⟨ad112, e112, hx112_0⟩ := Kd.at_string (Kd.R_reads' HO110.out).2.2 0 p112 q112; cases e112; have qi112 : (0 < t108.length) = True := eq_true (by omega); (try rw [show ((0 : Int)).toNat = 0 from rfl] at hx112_0); (try rw [Addr.add_zero'] at hx112_0); replace p112 := eq_true p112; replace q112 := eq_true q112; have p113 : 0 ≤ (1 : Int) := (by omega); have q113 : 1 < (t108.length : Int) := of_decide_eq_true (by first | (with_reducible assumption) | assumption); obtain ⟨ad113, e113, hx113_0⟩ := Kd.at_string (Kd.R_reads' HO110.out).2.2 1 p113 q113; obtain rfl : ad112 = ad113 := (by injection e113); (try simp only [show (1 : Int).toNat = 1 from rfl, Nat.reduceMul, Nat.reduceEqDiff, Go.Addr.add, ↓reduceIte] at hx113_0); have qi113 : (1 < t108.length) = True := eq_true (by omega); (try rw [show ((1 : Int)).toNat = 1 from rfl] at hx113_0); replace p113 := eq_true p113; replace q113 := eq_true q113))
              refine bodyPost_ret (results_list (rs := [.tmp 2, .tmp 3, .tmp 4, .tmp 5]) rfl (by simp) (.tmp (.tmp (.tmp (.tmp .nil))))) rfl ?_
              exact ⟨by first | rfl | (simp [errW_none, errW_some] <;> rfl) | (simp [*, errW_none, errW_some] <;> rfl) | (exfalso; contradiction), by repeat (first | (with_reducible first | exact HB.out | apply below_alloc | apply pw_below_drewN | apply below_drew1) | exact HB.out)⟩
            · rw [if_neg c23] at H
              have c23b0 : (([] : List UInt8) == ([104, 116, 116, 112] : List UInt8)) = false := beq_eq_false_iff_ne.mpr c23
              have c23b1 : (([] : List UInt8) != ([104, 116, 116, 112] : List UInt8)) = true := bne_iff_ne.mpr c23
              by_cases c26 : ([] : List UInt8) = ([104, 116, 116, 112, 115] : List UInt8)
              · rw [if_pos c26] at H
                have c26b0 : (([] : List UInt8) == ([104, 116, 116, 112, 115] : List UInt8)) = true := beq_iff_eq.mpr c26
                have c26b1 : (([] : List UInt8) != ([104, 116, 116, 112, 115] : List UInt8)) = false := bne_eq_false_iff_eq.mpr c26
                clear c26
                simp only [Option.some.injEq, Prod.mk.injEq] at H
                obtain ⟨rfl, rfl, rfl, rfl⟩ := H
                go_enter Try.func31, Try.ntmps31
                go_wp2_with (first | ((with_reducible refine gate_callee (f := 39) rfl ?_); refine goesL_ (some 8) rfl rfl Try.func39 (by kernel_rfl) rfl #[.string a0, .string (⟨#[58]⟩ : ByteArray)] rfl (by (try simp only [List.map_toArray, List.map_cons, List.map_nil]); first | done | rfl | (simp only [List.length_drop, List.length_take]; rfl)) ?_; (with_reducible refine (net_zzSplit.calls k a0 (⟨#[58]⟩ : ByteArray) t108 _ A2.out).mono ?_); rintro e w27 ⟨v109, rfl, ho0, hb⟩; refine ⟨_, rfl, ?_⟩; have n0_ := Aside0.mk (Kd.R_lower ho0 (below_size (by repeat (first | (with_reducible first | exact HB.out | apply below_alloc | apply pw_below_drewN | apply below_drew1) | exact HB.out)))); have n1_ := Aside0.mk (below_step (by repeat (first | (with_reducible first | exact HB.out | apply below_alloc | apply pw_below_drewN | apply below_drew1) | exact HB.out)) hb); clear HB; have HO110 := n0_; have HB := n1_; clear n0_ n1_; (try clear hb); (try clear hb2); (try clear hk); (try clear hi); (try clear ho0); obtain ⟨Ao28, co28, eo28⟩ := Kd.R_slice HO110.out; subst eo28; have p112 : 0 ≤ (0 : Int) := (by omega); have q112 : 0 < (t108.length : Int) := of_decide_eq_true (by first | (with_reducible assumption) | assumption); obtain ⟨ad112, e112, hx112_0⟩ := Kd.at_string (Kd.R_reads' HO110.out).2.2 0 p112 q112; cases e112; have qi112 : (0 < t108.length) = True := eq_true (by omega); (try rw [show ((0 : Int)).toNat = 0 from rfl] at hx112_0); (try rw [Addr.add_zero'] at hx112_0); replace p112 := eq_true p112; replace q112 := eq_true q112; have p113 : 0 ≤ (1 : Int) := (by omega); have q113 : 1 < (t108.length : Int) := of_decide_eq_true (by first | (with_reducible assumption) | assumption); obtain ⟨ad113, e113, hx113_0⟩ := Kd.at_string (Kd.R_reads' HO110.out).2.2 1 p113 q113; obtain rfl : ad112 = ad113 := (by injection e113); (try simp only [show (1 : Int).toNat = 1 from rfl, Nat.reduceMul, Nat.reduceEqDiff, Go.Addr.add, ↓reduceIte] at hx113_0); have qi113 : (1 < t108.length) = True := eq_true (by omega); (try rw [show ((1 : Int)).toNat = 1 from rfl] at hx113_0); replace p113 := eq_true p113; replace q113 := eq_true q113))
                refine bodyPost_ret (results_list (rs := [.tmp 2, .tmp 3, .tmp 4, .tmp 5]) rfl (by simp) (.tmp (.tmp (.tmp (.tmp .nil))))) rfl ?_
                exact ⟨by first | rfl | (simp [errW_none, errW_some] <;> rfl) | (simp [*, errW_none, errW_some] <;> rfl) | (exfalso; contradiction), by repeat (first | (with_reducible first | exact HB.out | apply below_alloc | apply pw_below_drewN | apply below_drew1) | exact HB.out)⟩
              · rw [if_neg c26] at H
                have c26b0 : (([] : List UInt8) == ([104, 116, 116, 112, 115] : List UInt8)) = false := beq_eq_false_iff_ne.mpr c26
                have c26b1 : (([] : List UInt8) != ([104, 116, 116, 112, 115] : List UInt8)) = true := bne_iff_ne.mpr c26
                by_cases c29 : ([] : List UInt8) = ([] : List UInt8)
                · rw [if_pos c29] at H
                  have c29b0 : (([] : List UInt8) == ([] : List UInt8)) = true := beq_iff_eq.mpr c29
                  have c29b1 : (([] : List UInt8) != ([] : List UInt8)) = false := bne_eq_false_iff_eq.mpr c29
                  clear c29
                  simp only [Option.some.injEq, Prod.mk.injEq] at H
                  obtain ⟨rfl, rfl, rfl, rfl⟩ := H
                  go_enter Try.func31, Try.ntmps31
                  go_wp2_with (first | ((with_reducible refine gate_callee (f := 39) rfl ?_); refine goesL_ (some 8) rfl rfl Try.func39 (by kernel_rfl) rfl #[.string a0, .string (⟨#[58]⟩ : ByteArray)] rfl (by (try simp only [List.map_toArray, List.map_cons, List.map_nil]); first | done | rfl | (simp only [List.length_drop, List.length_take]; rfl)) ?_; (with_reducible refine (net_zzSplit.calls k a0 (⟨#[58]⟩ : ByteArray) t108 _ A2.out).mono ?_); rintro e w30 ⟨v109, rfl, ho0, hb⟩; refine ⟨_, rfl, ?_⟩; have n0_ := Aside0.mk (Kd.R_lower ho0 (below_size (by repeat (first | (with_reducible first | exact HB.out | apply below_alloc | apply pw_below_drewN | apply below_drew1) | exact HB.out)))); have n1_ := Aside0.mk (below_step (by repeat (first | (with_reducible first | exact HB.out | apply below_alloc | apply pw_below_drewN | apply below_drew1) | exact HB.out)) hb); clear HB; have HO110 := n0_; have HB := n1_; clear n0_ n1_; (try clear hb); (try clear hb2); (try clear hk); (try clear hi); (try clear ho0); obtain ⟨Ao31, co31, eo31⟩ := Kd.R_slice HO110.out; subst eo31; have p112 : 0 ≤ (0 : Int) := (by omega); have q112 : 0 < (t108.length : Int) := of_decide_eq_true (by first | (with_reducible assumption) | assumption); obtain ⟨ad112, e112, hx112_0⟩ := Kd.at_string (Kd.R_reads' HO110.out).2.2 0 p112 q112; cases e112; have qi112 : (0 < t108.length) = True := eq_true (by omega); (try rw [show ((0 : Int)).toNat = 0 from rfl] at hx112_0); (try rw [Addr.add_zero'] at hx112_0); replace p112 := eq_true p112; replace q112 := eq_true q112; have p113 : 0 ≤ (1 : Int) := (by omega); have q113 : 1 < (t108.length : Int) := of_decide_eq_true (by first | (with_reducible assumption) | assumption); obtain ⟨ad113, e113, hx113_0⟩ := Kd.at_string (Kd.R_reads' HO110.out).2.2 1 p113 q113; obtain rfl : ad112 = ad113 := (by injection e113); (try simp only [show (1 : Int).toNat = 1 from rfl, Nat.reduceMul, Nat.reduceEqDiff, Go.Addr.add, ↓reduceIte] at hx113_0); have qi113 : (1 < t108.length) = True := eq_true (by omega); (try rw [show ((1 : Int)).toNat = 1 from rfl] at hx113_0); replace p113 := eq_true p113; replace q113 := eq_true q113))
                  refine bodyPost_ret (results_list (rs := [.tmp 2, .tmp 3, .tmp 4, .tmp 5]) rfl (by simp) (.tmp (.tmp (.tmp (.tmp .nil))))) rfl ?_
                  exact ⟨by first | rfl | (simp [errW_none, errW_some] <;> rfl) | (simp [*, errW_none, errW_some] <;> rfl) | (exfalso; contradiction), by repeat (first | (with_reducible first | exact HB.out | apply below_alloc | apply pw_below_drewN | apply below_drew1) | exact HB.out)⟩
                · rw [if_neg c29] at H
                  have c29b0 : (([] : List UInt8) == ([] : List UInt8)) = false := beq_eq_false_iff_ne.mpr c29
                  have c29b1 : (([] : List UInt8) != ([] : List UInt8)) = true := bne_iff_ne.mpr c29
                  simp only [Option.some.injEq, Prod.mk.injEq] at H
                  obtain ⟨rfl, rfl, rfl, rfl⟩ := H
                  go_enter Try.func31, Try.ntmps31
                  go_wp2_with (first | ((with_reducible refine gate_callee (f := 39) rfl ?_); refine goesL_ (some 8) rfl rfl Try.func39 (by kernel_rfl) rfl #[.string a0, .string (⟨#[58]⟩ : ByteArray)] rfl (by (try simp only [List.map_toArray, List.map_cons, List.map_nil]); first | done | rfl | (simp only [List.length_drop, List.length_take]; rfl)) ?_; (with_reducible refine (net_zzSplit.calls k a0 (⟨#[58]⟩ : ByteArray) t108 _ A2.out).mono ?_); rintro e w32 ⟨v109, rfl, ho0, hb⟩; refine ⟨_, rfl, ?_⟩; have n0_ := Aside0.mk (Kd.R_lower ho0 (below_size (by repeat (first | (with_reducible first | exact HB.out | apply below_alloc | apply pw_below_drewN | apply below_drew1) | exact HB.out)))); have n1_ := Aside0.mk (below_step (by repeat (first | (with_reducible first | exact HB.out | apply below_alloc | apply pw_below_drewN | apply below_drew1) | exact HB.out)) hb); clear HB; have HO110 := n0_; have HB := n1_; clear n0_ n1_; (try clear hb); (try clear hb2); (try clear hk); (try clear hi); (try clear ho0); obtain ⟨Ao33, co33, eo33⟩ := Kd.R_slice HO110.out; subst eo33; have p112 : 0 ≤ (0 : Int) := (by omega); have q112 : 0 < (t108.length : Int) := of_decide_eq_true (by first | (with_reducible assumption) | assumption); obtain ⟨ad112, e112, hx112_0⟩ := Kd.at_string (Kd.R_reads' HO110.out).2.2 0 p112 q112; cases e112; have qi112 : (0 < t108.length) = True := eq_true (by omega); (try rw [show ((0 : Int)).toNat = 0 from rfl] at hx112_0); (try rw [Addr.add_zero'] at hx112_0); replace p112 := eq_true p112; replace q112 := eq_true q112; have p113 : 0 ≤ (1 : Int) := (by omega); have q113 : 1 < (t108.length : Int) := of_decide_eq_true (by first | (with_reducible assumption) | assumption); obtain ⟨ad113, e113, hx113_0⟩ := Kd.at_string (Kd.R_reads' HO110.out).2.2 1 p113 q113; obtain rfl : ad112 = ad113 := (by injection e113); (try simp only [show (1 : Int).toNat = 1 from rfl, Nat.reduceMul, Nat.reduceEqDiff, Go.Addr.add, ↓reduceIte] at hx113_0); have qi113 : (1 < t108.length) = True := eq_true (by omega); (try rw [show ((1 : Int)).toNat = 1 from rfl] at hx113_0); replace p113 := eq_true p113; replace q113 := eq_true q113))
                  refine bodyPost_ret (results_list (rs := [.tmp 2, .tmp 3, .tmp 4, .tmp 5]) rfl (by simp) (.tmp (.tmp (.tmp (.tmp .nil))))) rfl ?_
                  exact ⟨by first | rfl | (simp [errW_none, errW_some] <;> rfl) | (simp [*, errW_none, errW_some] <;> rfl) | (exfalso; contradiction), by repeat (first | (with_reducible first | exact HB.out | apply below_alloc | apply pw_below_drewN | apply below_drew1) | exact HB.out)⟩
          · rw [if_neg c22] at H
            have c22b0 : decide (0 < ((rdOf ByteArray.empty t108 0).size : Int)) = false := decide_eq_false c22
            have c22b1 : decide (0 < (rdOf ByteArray.empty t108 0).size) = false := decide_eq_false (by omega)
            clear c22
            simp only [Option.some.injEq, Prod.mk.injEq] at H
            obtain ⟨rfl, rfl, rfl, rfl⟩ := H
            go_enter Try.func31, Try.ntmps31
            go_wp2_with (first | ((with_reducible refine gate_callee (f := 39) rfl ?_); refine goesL_ (some 8) rfl rfl Try.func39 (by kernel_rfl) rfl #[.string a0, .string (⟨#[58]⟩ : ByteArray)] rfl (by (try simp only [List.map_toArray, List.map_cons, List.map_nil]); first | done | rfl | (simp only [List.length_drop, List.length_take]; rfl)) ?_; (with_reducible refine (net_zzSplit.calls k a0 (⟨#[58]⟩ : ByteArray) t108 _ A2.out).mono ?_); rintro e w34 ⟨v109, rfl, ho0, hb⟩; refine ⟨_, rfl, ?_⟩; have n0_ := Aside0.mk (Kd.R_lower ho0 (below_size (by repeat (first | (with_reducible first | exact HB.out | apply below_alloc | apply pw_below_drewN | apply below_drew1) | exact HB.out)))); have n1_ := Aside0.mk (below_step (by repeat (first | (with_reducible first | exact HB.out | apply below_alloc | apply pw_below_drewN | apply below_drew1) | exact HB.out)) hb); clear HB; have HO110 := n0_; have HB := n1_; clear n0_ n1_; (try clear hb); (try clear hb2); (try clear hk); (try clear hi); (try clear ho0); obtain ⟨Ao35, co35, eo35⟩ := Kd.R_slice HO110.out; subst eo35; have p112 : 0 ≤ (0 : Int) := (by omega); have q112 : 0 < (t108.length : Int) := of_decide_eq_true (by first | (with_reducible assumption) | assumption); obtain ⟨ad112, e112, hx112_0⟩ := Kd.at_string (Kd.R_reads' HO110.out).2.2 0 p112 q112; cases e112; have qi112 : (0 < t108.length) = True := eq_true (by omega); (try rw [show ((0 : Int)).toNat = 0 from rfl] at hx112_0); (try rw [Addr.add_zero'] at hx112_0); replace p112 := eq_true p112; replace q112 := eq_true q112; have p113 : 0 ≤ (1 : Int) := (by omega); have q113 : 1 < (t108.length : Int) := of_decide_eq_true (by first | (with_reducible assumption) | assumption); obtain ⟨ad113, e113, hx113_0⟩ := Kd.at_string (Kd.R_reads' HO110.out).2.2 1 p113 q113; obtain rfl : ad112 = ad113 := (by injection e113); (try simp only [show (1 : Int).toNat = 1 from rfl, Nat.reduceMul, Nat.reduceEqDiff, Go.Addr.add, ↓reduceIte] at hx113_0); have qi113 : (1 < t108.length) = True := eq_true (by omega); (try rw [show ((1 : Int)).toNat = 1 from rfl] at hx113_0); replace p113 := eq_true p113; replace q113 := eq_true q113))
            refine bodyPost_ret (results_list (rs := [.tmp 2, .tmp 3, .tmp 4, .tmp 5]) rfl (by simp) (.tmp (.tmp (.tmp (.tmp .nil))))) rfl ?_
            exact ⟨by first | rfl | (simp [errW_none, errW_some] <;> rfl) | (simp [*, errW_none, errW_some] <;> rfl) | (exfalso; contradiction), by repeat (first | (with_reducible first | exact HB.out | apply below_alloc | apply pw_below_drewN | apply below_drew1) | exact HB.out)⟩
        · rw [if_neg c21] at H
          exact absurd H (by simp)
      · rw [if_neg c20] at H
        exact absurd H (by simp)
    · rw [if_neg c19] at H
      have c19b0 : ((t108.length : Int) == 2) = false := beq_eq_false_iff_ne.mpr c19
      have c19b1 : ((t108.length : Int) != 2) = true := bne_iff_ne.mpr c19
      by_cases c36 : (t108.length : Int) = 3
      · rw [if_pos c36] at H
        have c36b0 : ((t108.length : Int) == 3) = true := beq_iff_eq.mpr c36
        have c36b1 : ((t108.length : Int) != 3) = false := bne_eq_false_iff_eq.mpr c36
        clear c36
        by_cases c37 : 0 < (t108.length : Int)
        · rw [if_pos c37] at H
          have c37b0 : decide (0 < (t108.length : Int)) = true := decide_eq_true c37
          have c37b1 : decide (0 < t108.length) = true := decide_eq_true (by omega)
          clear c37
          by_cases c38 : 1 < (t108.length : Int)
          · rw [if_pos c38] at H
            have c38b0 : decide (1 < (t108.length : Int)) = true := decide_eq_true c38
            have c38b1 : decide (1 < t108.length) = true := decide_eq_true (by omega)
            clear c38
            by_cases c39 : 2 < (t108.length : Int)
            · rw [if_pos c39] at H
              have c39b0 : decide (2 < (t108.length : Int)) = true := decide_eq_true c39
              have c39b1 : decide (2 < t108.length) = true := decide_eq_true (by omega)
              clear c39
              by_cases c40 : ((rdOf ByteArray.empty t108 1).size : Int) > 0
              · rw [if_pos c40] at H
                have c40b0 : decide (0 < ((rdOf ByteArray.empty t108 1).size : Int)) = true := decide_eq_true c40
                have c40b1 : decide (0 < (rdOf ByteArray.empty t108 1).size) = true := decide_eq_true (by omega)
                clear c40
                by_cases c41 : (rdOf ByteArray.empty t108 0).toList = ([104, 116, 116, 112] : List UInt8)
                · rw [if_pos c41] at H
                  have c41b0 : ((rdOf ByteArray.empty t108 0).toList == ([104, 116, 116, 112] : List UInt8)) = true := beq_iff_eq.mpr c41
                  have c41b1 : ((rdOf ByteArray.empty t108 0).toList != ([104, 116, 116, 112] : List UInt8)) = false := bne_eq_false_iff_eq.mpr c41
                  clear c41
                  simp only [Option.some.injEq, Prod.mk.injEq] at H
                  obtain ⟨rfl, rfl, rfl, rfl⟩ := H
                  go_enter Try.func31, Try.ntmps31
                  go_wp2_with (first | ((with_reducible refine gate_callee (f := 39) rfl ?_); refine goesL_ (some 8) rfl rfl Try.func39 (by kernel_rfl) rfl #[.string a0, .string (⟨#[58]⟩ : ByteArray)] rfl (by (try simp only [List.map_toArray, List.map_cons, List.map_nil]); first | done | rfl | (simp only [List.length_drop, List.length_take]; rfl)) ?_; (with_reducible refine (net_zzSplit.calls k a0 (⟨#[58]⟩ : ByteArray) t108 _ A2.out).mono ?_); rintro e w42 ⟨v109, rfl, ho0, hb⟩; refine ⟨_, rfl, ?_⟩; have n0_ := Aside0.mk (Kd.R_lower ho0 (below_size (by repeat (first | (with_reducible first | exact HB.out | apply below_alloc | apply pw_below_drewN | apply below_drew1) | exact HB.out)))); have n1_ := Aside0.mk (below_step (by repeat (first | (with_reducible first | exact HB.out | apply below_alloc | apply pw_below_drewN | apply below_drew1) | exact HB.out)) hb); clear HB; have HO110 := n0_; have HB := n1_; clear n0_ n1_; (try clear hb); (try clear hb2); (try clear hk); (try clear hi); (try clear ho0); obtain ⟨Ao43, co43, eo43⟩ := Kd.R_slice HO110.out; subst eo43; have p114 : 0 ≤ (0 : Int) := (by omega); have q114 : 0 < (t108.length : Int) := of_decide_eq_true (by first | (with_reducible assumption) | assumption); obtain ⟨ad114, e114, hx114_0⟩ := Kd.at_string (Kd.R_reads' HO110.out).2.2 0 p114 q114; cases e114; have qi114 : (0 < t108.length) = True := eq_true (by omega); (try rw [show ((0 : Int)).toNat = 0 from rfl] at hx114_0); (try rw [Addr.add_zero'] at hx114_0); replace p114 := eq_true p114; replace q114 := eq_true q114; have p115 : 0 ≤ (1 : Int) := (by omega); have q115 : 1 < (t108.length : Int) := of_decide_eq_true (by first | (with_reducible assumption) | assumption); obtain ⟨ad115, e115, hx115_0⟩ := Kd.at_string (Kd.R_reads' HO110.out).2.2 1 p115 q115; obtain rfl : ad114 = ad115 := (by injection e115); (try simp only [show (1 : Int).toNat = 1 from rfl, Nat.reduceMul, Nat.reduceEqDiff, Go.Addr.add, ↓reduceIte] at hx115_0); have qi115 : (1 < t108.length) = True := eq_true (by omega); (try rw [show ((1 : Int)).toNat = 1 from rfl] at hx115_0); replace p115 := eq_true p115; replace q115 := eq_true q115; have p116 : 0 ≤ (2 : Int) := (by omega); have q116 : 2 < (t108.length : Int) := of_decide_eq_true (by first | (with_reducible assumption) | assumption); obtain ⟨ad116, e116, hx116_0⟩ := Kd.at_string (Kd.R_reads' HO110.out).2.2 2 p116 q116; obtain rfl : ad114 = ad116 := (by injection e116); (try simp only [show (2 : Int).toNat = 2 from rfl, Nat.reduceMul, Nat.reduceEqDiff, Go.Addr.add, ↓reduceIte] at hx116_0); have qi116 : (2 < t108.length) = True := eq_true (by omega); (try rw [show ((2 : Int)).toNat = 2 from rfl] at hx116_0); replace p116 := eq_true p116; replace q116 := eq_true q116))
                  refine bodyPost_ret (results_list (rs := [.tmp 2, .tmp 3, .tmp 4, .tmp 5]) rfl (by simp) (.tmp (.tmp (.tmp (.tmp .nil))))) rfl ?_
                  exact ⟨by first | rfl | (simp [errW_none, errW_some] <;> rfl) | (simp [*, errW_none, errW_some] <;> rfl) | (exfalso; contradiction), by repeat (first | (with_reducible first | exact HB.out | apply below_alloc | apply pw_below_drewN | apply below_drew1) | exact HB.out)⟩
                · rw [if_neg c41] at H
                  have c41b0 : ((rdOf ByteArray.empty t108 0).toList == ([104, 116, 116, 112] : List UInt8)) = false := beq_eq_false_iff_ne.mpr c41
                  have c41b1 : ((rdOf ByteArray.empty t108 0).toList != ([104, 116, 116, 112] : List UInt8)) = true := bne_iff_ne.mpr c41
                  by_cases c44 : (rdOf ByteArray.empty t108 0).toList = ([104, 116, 116, 112, 115] : List UInt8)
                  · rw [if_pos c44] at H
                    have c44b0 : ((rdOf ByteArray.empty t108 0).toList == ([104, 116, 116, 112, 115] : List UInt8)) = true := beq_iff_eq.mpr c44
                    have c44b1 : ((rdOf ByteArray.empty t108 0).toList != ([104, 116, 116, 112, 115] : List UInt8)) = false := bne_eq_false_iff_eq.mpr c44
                    clear c44
                    simp only [Option.some.injEq, Prod.mk.injEq] at H
                    obtain ⟨rfl, rfl, rfl, rfl⟩ := H
                    go_enter Try.func31, Try.ntmps31
                    go_wp2_with (first | ((with_reducible refine gate_callee (f := 39) rfl ?_); refine goesL_ (some 8) rfl rfl Try.func39 (by kernel_rfl) rfl #[.string a0, .string (⟨#[58]⟩ : ByteArray)] rfl (by (try simp only [List.map_toArray, List.map_cons, List.map_nil]); first | done | rfl | (simp only [List.length_drop, List.length_take]; rfl)) ?_; (with_reducible refine (net_zzSplit.calls k a0 (⟨#[58]⟩ : ByteArray) t108 _ A2.out).mono ?_); rintro e w45 ⟨v109, rfl, ho0, hb⟩; refine ⟨_, rfl, ?_⟩; have n0_ := Aside0.mk (Kd.R_lower ho0 (below_size (by repeat (first | (with_reducible first | exact HB.out | apply below_alloc | apply pw_below_drewN | apply below_drew1) | exact HB.out)))); have n1_ := Aside0.mk (below_step (by repeat (first | (with_reducible first | exact HB.out | apply below_alloc | apply pw_below_drewN | apply below_drew1) | exact HB.out)) hb); clear HB; have HO110 := n0_; have HB := n1_; clear n0_ n1_; (try clear hb); (try clear hb2); (try clear hk); (try clear hi); (try clear ho0); obtain ⟨Ao46, co46, eo46⟩ := Kd.R_slice HO110.out; subst eo46; have p114 : 0 ≤ (0 : Int) := (by omega); have q114 : 0 < (t108.length : Int) := of_decide_eq_true (by first | (with_reducible assumption) | assumption); obtain ⟨ad114, e114, hx114_0⟩ := Kd.at_string (Kd.R_reads' HO110.out).2.2 0 p114 q114; cases e114; have qi114 : (0 < t108.length) = True := eq_true (by omega); (try rw [show ((0 : Int)).toNat = 0 from rfl] at hx114_0); (try rw [Addr.add_zero'] at hx114_0); replace p114 := eq_true p114; replace q114 := eq_true q114; have p115 : 0 ≤ (1 : Int) := (by omega); have q115 : 1 < (t108.length : Int) := of_decide_eq_true (by first | (with_reducible assumption) | assumption); obtain ⟨ad115, e115, hx115_0⟩ := Kd.at_string (Kd.R_reads' HO110.out).2.2 1 p115 q115; obtain rfl : ad114 = ad115 := (by injection e115); (try simp only [show (1 : Int).toNat = 1 from rfl, Nat.reduceMul, Nat.reduceEqDiff, Go.Addr.add, ↓reduceIte] at hx115_0); have qi115 : (1 < t108.length) = True := eq_true (by omega); (try rw [show ((1 : Int)).toNat = 1 from rfl] at hx115_0); replace p115 := eq_true p115; replace q115 := eq_true q115; have p116 : 0 ≤ (2 : Int) := (by omega); have q116 : 2 < (t108.length : Int) := of_decide_eq_true (by first | (with_reducible assumption) | assumption); obtain ⟨ad116, e116, hx116_0⟩ := Kd.at_string (Kd.R_reads' HO110.out).2.2 2 p116 q116; obtain rfl : ad114 = ad116 := (by injection e116); (try simp only [show (2 : Int).toNat = 2 from rfl, Nat.reduceMul, Nat.reduceEqDiff, Go.Addr.add, ↓reduceIte] at hx116_0); have qi116 : (2 < t108.length) = True := eq_true (by omega); (try rw [show ((2 : Int)).toNat = 2 from rfl] at hx116_0); replace p116 := eq_true p116; replace q116 := eq_true q116))
                    refine bodyPost_ret (results_list (rs := [.tmp 2, .tmp 3, .tmp 4, .tmp 5]) rfl (by simp) (.tmp (.tmp (.tmp (.tmp .nil))))) rfl ?_
                    exact ⟨by first | rfl | (simp [errW_none, errW_some] <;> rfl) | (simp [*, errW_none, errW_some] <;> rfl) | (exfalso; contradiction), by repeat (first | (with_reducible first | exact HB.out | apply below_alloc | apply pw_below_drewN | apply below_drew1) | exact HB.out)⟩
                  · rw [if_neg c44] at H
                    have c44b0 : ((rdOf ByteArray.empty t108 0).toList == ([104, 116, 116, 112, 115] : List UInt8)) = false := beq_eq_false_iff_ne.mpr c44
                    have c44b1 : ((rdOf ByteArray.empty t108 0).toList != ([104, 116, 116, 112, 115] : List UInt8)) = true := bne_iff_ne.mpr c44
                    by_cases c47 : (rdOf ByteArray.empty t108 0).toList = ([] : List UInt8)
                    · rw [if_pos c47] at H
                      have c47b0 : ((rdOf ByteArray.empty t108 0).toList == ([] : List UInt8)) = true := beq_iff_eq.mpr c47
                      have c47b1 : ((rdOf ByteArray.empty t108 0).toList != ([] : List UInt8)) = false := bne_eq_false_iff_eq.mpr c47
                      clear c47
                      simp only [Option.some.injEq, Prod.mk.injEq] at H
                      obtain ⟨rfl, rfl, rfl, rfl⟩ := H
                      go_enter Try.func31, Try.ntmps31
                      go_wp2_with (first | ((with_reducible refine gate_callee (f := 39) rfl ?_); refine goesL_ (some 8) rfl rfl Try.func39 (by kernel_rfl) rfl #[.string a0, .string (⟨#[58]⟩ : ByteArray)] rfl (by (try simp only [List.map_toArray, List.map_cons, List.map_nil]); first | done | rfl | (simp only [List.length_drop, List.length_take]; rfl)) ?_; (with_reducible refine (net_zzSplit.calls k a0 (⟨#[58]⟩ : ByteArray) t108 _ A2.out).mono ?_); rintro e w48 ⟨v109, rfl, ho0, hb⟩; refine ⟨_, rfl, ?_⟩; have n0_ := Aside0.mk (Kd.R_lower ho0 (below_size (by repeat (first | (with_reducible first | exact HB.out | apply below_alloc | apply pw_below_drewN | apply below_drew1) | exact HB.out)))); have n1_ := Aside0.mk (below_step (by repeat (first | (with_reducible first | exact HB.out | apply below_alloc | apply pw_below_drewN | apply below_drew1) | exact HB.out)) hb); clear HB; have HO110 := n0_; have HB := n1_; clear n0_ n1_; (try clear hb); (try clear hb2); (try clear hk); (try clear hi); (try clear ho0); obtain ⟨Ao49, co49, eo49⟩ := Kd.R_slice HO110.out; subst eo49; have p114 : 0 ≤ (0 : Int) := (by omega); have q114 : 0 < (t108.length : Int) := of_decide_eq_true (by first | (with_reducible assumption) | assumption); obtain ⟨ad114, e114, hx114_0⟩ := Kd.at_string (Kd.R_reads' HO110.out).2.2 0 p114 q114; cases e114; have qi114 : (0 < t108.length) = True := eq_true (by omega); (try rw [show ((0 : Int)).toNat = 0 from rfl] at hx114_0); (try rw [Addr.add_zero'] at hx114_0); replace p114 := eq_true p114; replace q114 := eq_true q114; have p115 : 0 ≤ (1 : Int) := (by omega); have q115 : 1 < (t108.length : Int) := of_decide_eq_true (by first | (with_reducible assumption) | assumption); obtain ⟨ad115, e115, hx115_0⟩ := Kd.at_string (Kd.R_reads' HO110.out).2.2 1 p115 q115; obtain rfl : ad114 = ad115 := (by injection e115); (try simp only [show (1 : Int).toNat = 1 from rfl, Nat.reduceMul, Nat.reduceEqDiff, Go.Addr.add, ↓reduceIte] at hx115_0); have qi115 : (1 < t108.length) = True := eq_true (by omega); (try rw [show ((1 : Int)).toNat = 1 from rfl] at hx115_0); replace p115 := eq_true p115; replace q115 := eq_true q115; have p116 : 0 ≤ (2 : Int) := (by omega); have q116 : 2 < (t108.length : Int) := of_decide_eq_true (by first | (with_reducible assumption) | assumption); obtain ⟨ad116, e116, hx116_0⟩ := Kd.at_string (Kd.R_reads' HO110.out).2.2 2 p116 q116; obtain rfl : ad114 = ad116 := (by injection e116); (try simp only [show (2 : Int).toNat = 2 from rfl, Nat.reduceMul, Nat.reduceEqDiff, Go.Addr.add, ↓reduceIte] at hx116_0); have qi116 : (2 < t108.length) = True := eq_true (by omega); (try rw [show ((2 : Int)).toNat = 2 from rfl] at hx116_0); replace p116 := eq_true p116; replace q116 := eq_true q116))
                      refine bodyPost_ret (results_list (rs := [.tmp 2, .tmp 3, .tmp 4, .tmp 5]) rfl (by simp) (.tmp (.tmp (.tmp (.tmp .nil))))) rfl ?_
                      exact ⟨by first | rfl | (simp [errW_none, errW_some] <;> rfl) | (simp [*, errW_none, errW_some] <;> rfl) | (exfalso; contradiction), by repeat (first | (with_reducible first | exact HB.out | apply below_alloc | apply pw_below_drewN | apply below_drew1) | exact HB.out)⟩
                    · rw [if_neg c47] at H
                      have c47b0 : ((rdOf ByteArray.empty t108 0).toList == ([] : List UInt8)) = false := beq_eq_false_iff_ne.mpr c47
                      have c47b1 : ((rdOf ByteArray.empty t108 0).toList != ([] : List UInt8)) = true := bne_iff_ne.mpr c47
                      simp only [Option.some.injEq, Prod.mk.injEq] at H
                      obtain ⟨rfl, rfl, rfl, rfl⟩ := H
                      go_enter Try.func31, Try.ntmps31
                      go_wp2_with (first | ((with_reducible refine gate_callee (f := 39) rfl ?_); refine goesL_ (some 8) rfl rfl Try.func39 (by kernel_rfl) rfl #[.string a0, .string (⟨#[58]⟩ : ByteArray)] rfl (by (try simp only [List.map_toArray, List.map_cons, List.map_nil]); first | done | rfl | (simp only [List.length_drop, List.length_take]; rfl)) ?_; (with_reducible refine (net_zzSplit.calls k a0 (⟨#[58]⟩ : ByteArray) t108 _ A2.out).mono ?_); rintro e w50 ⟨v109, rfl, ho0, hb⟩; refine ⟨_, rfl, ?_⟩; have n0_ := Aside0.mk (Kd.R_lower ho0 (below_size (by repeat (first | (with_reducible first | exact HB.out | apply below_alloc | apply pw_below_drewN | apply below_drew1) | exact HB.out)))); have n1_ := Aside0.mk (below_step (by repeat (first | (with_reducible first | exact HB.out | apply below_alloc | apply pw_below_drewN | apply below_drew1) | exact HB.out)) hb); clear HB; have HO110 := n0_; have HB := n1_; clear n0_ n1_; (try clear hb); (try clear hb2); (try clear hk); (try clear hi); (try clear ho0); obtain ⟨Ao51, co51, eo51⟩ := Kd.R_slice HO110.out; subst eo51; have p114 : 0 ≤ (0 : Int) := (by omega); have q114 : 0 < (t108.length : Int) := of_decide_eq_true (by first | (with_reducible assumption) | assumption); obtain ⟨ad114, e114, hx114_0⟩ := Kd.at_string (Kd.R_reads' HO110.out).2.2 0 p114 q114; cases e114; have qi114 : (0 < t108.length) = True := eq_true (by omega); (try rw [show ((0 : Int)).toNat = 0 from rfl] at hx114_0); (try rw [Addr.add_zero'] at hx114_0); replace p114 := eq_true p114; replace q114 := eq_true q114; have p115 : 0 ≤ (1 : Int) := (by omega); have q115 : 1 < (t108.length : Int) := of_decide_eq_true (by first | (with_reducible assumption) | assumption); obtain ⟨ad115, e115, hx115_0⟩ := Kd.at_string (Kd.R_reads' HO110.out).2.2 1 p115 q115; obtain rfl : ad114 = ad115 := (by injection e115); (try simp only [show (1 : Int).toNat = 1 from rfl, Nat.reduceMul, Nat.reduceEqDiff, Go.Addr.add, ↓reduceIte] at hx115_0); have qi115 : (1 < t108.length) = True := eq_true (by omega); (try rw [show ((1 : Int)).toNat = 1 from rfl] at hx115_0); replace p115 := eq_true p115; replace q115 := eq_true q115; have p116 : 0 ≤ (2 : Int) := (by omega); have q116 : 2 < (t108.length : Int) := of_decide_eq_true (by first | (with_reducible assumption) | assumption); obtain ⟨ad116, e116, hx116_0⟩ := Kd.at_string (Kd.R_reads' HO110.out).2.2 2 p116 q116; obtain rfl : ad114 = ad116 := (by injection e116); (try simp only [show (2 : Int).toNat = 2 from rfl, Nat.reduceMul, Nat.reduceEqDiff, Go.Addr.add, ↓reduceIte] at hx116_0); have qi116 : (2 < t108.length) = True := eq_true (by omega); (try rw [show ((2 : Int)).toNat = 2 from rfl] at hx116_0); replace p116 := eq_true p116; replace q116 := eq_true q116))
                      refine bodyPost_ret (results_list (rs := [.tmp 2, .tmp 3, .tmp 4, .tmp 5]) rfl (by simp) (.tmp (.tmp (.tmp (.tmp .nil))))) rfl ?_
                      exact ⟨by first | rfl | (simp [errW_none, errW_some] <;> rfl) | (simp [*, errW_none, errW_some] <;> rfl) | (exfalso; contradiction), by repeat (first | (with_reducible first | exact HB.out | apply below_alloc | apply pw_below_drewN | apply below_drew1) | exact HB.out)⟩
              · rw [if_neg c40] at H
                have c40b0 : decide (0 < ((rdOf ByteArray.empty t108 1).size : Int)) = false := decide_eq_false c40
                have c40b1 : decide (0 < (rdOf ByteArray.empty t108 1).size) = false := decide_eq_false (by omega)
                clear c40
                simp only [Option.some.injEq, Prod.mk.injEq] at H
                obtain ⟨rfl, rfl, rfl, rfl⟩ := H
                go_enter Try.func31, Try.ntmps31
                go_wp2_with (first | ((with_reducible refine gate_callee (f := 39) rfl ?_); refine goesL_ (some 8) rfl rfl Try.func39 (by kernel_rfl) rfl #[.string a0, .string (⟨#[58]⟩ : ByteArray)] rfl (by (try simp only [List.map_toArray, List.map_cons, List.map_nil]); first | done | rfl | (simp only [List.length_drop, List.length_take]; rfl)) ?_; (with_reducible refine (net_zzSplit.calls k a0 (⟨#[58]⟩ : ByteArray) t108 _ A2.out).mono ?_); rintro e w52 ⟨v109, rfl, ho0, hb⟩; refine ⟨_, rfl, ?_⟩; have n0_ := Aside0.mk (Kd.R_lower ho0 (below_size (by repeat (first | (with_reducible first | exact HB.out | apply below_alloc | apply pw_below_drewN | apply below_drew1) | exact HB.out)))); have n1_ := Aside0.mk (below_step (by repeat (first | (with_reducible first | exact HB.out | apply below_alloc | apply pw_below_drewN | apply below_drew1) | exact HB.out)) hb); clear HB; have HO110 := n0_; have HB := n1_; clear n0_ n1_; (try clear hb); (try clear hb2); (try clear hk); (try clear hi); (try clear ho0); obtain ⟨Ao53, co53, eo53⟩ := Kd.R_slice HO110.out; subst eo53; have p114 : 0 ≤ (0 : Int) := (by omega); have q114 : 0 < (t108.length : Int) := of_decide_eq_true (by first | (with_reducible assumption) | assumption); obtain ⟨ad114, e114, hx114_0⟩ := Kd.at_string (Kd.R_reads' HO110.out).2.2 0 p114 q114; cases e114; have qi114 : (0 < t108.length) = True := eq_true (by omega); (try rw [show ((0 : Int)).toNat = 0 from rfl] at hx114_0); (try rw [Addr.add_zero'] at hx114_0); replace p114 := eq_true p114; replace q114 := eq_true q114; have p115 : 0 ≤ (1 : Int) := (by omega); have q115 : 1 < (t108.length : Int) := of_decide_eq_true (by first | (with_reducible assumption) | assumption); obtain ⟨ad115, e115, hx115_0⟩ := Kd.at_string (Kd.R_reads' HO110.out).2.2 1 p115 q115; obtain rfl : ad114 = ad115 := (by injection e115); (try simp only [show (1 : Int).toNat = 1 from rfl, Nat.reduceMul, Nat.reduceEqDiff, Go.Addr.add, ↓reduceIte] at hx115_0); have qi115 : (1 < t108.length) = True := eq_true (by omega); (try rw [show ((1 : Int)).toNat = 1 from rfl] at hx115_0); replace p115 := eq_true p115; replace q115 := eq_true q115; have p116 : 0 ≤ (2 : Int) := (by omega); have q116 : 2 < (t108.length : Int) := of_decide_eq_true (by first | (with_reducible assumption) | assumption); obtain ⟨ad116, e116, hx116_0⟩ := Kd.at_string (Kd.R_reads' HO110.out).2.2 2 p116 q116; obtain rfl : ad114 = ad116 := (by injection e116); (try simp only [show (2 : Int).toNat = 2 from rfl, Nat.reduceMul, Nat.reduceEqDiff, Go.Addr.add, ↓reduceIte] at hx116_0); have qi116 : (2 < t108.length) = True := eq_true (by omega); (try rw [show ((2 : Int)).toNat = 2 from rfl] at hx116_0); replace p116 := eq_true p116; replace q116 := eq_true q116))
                refine bodyPost_ret (results_list (rs := [.tmp 2, .tmp 3, .tmp 4, .tmp 5]) rfl (by simp) (.tmp (.tmp (.tmp (.tmp .nil))))) rfl ?_
                exact ⟨by first | rfl | (simp [errW_none, errW_some] <;> rfl) | (simp [*, errW_none, errW_some] <;> rfl) | (exfalso; contradiction), by repeat (first | (with_reducible first | exact HB.out | apply below_alloc | apply pw_below_drewN | apply below_drew1) | exact HB.out)⟩
            · rw [if_neg c39] at H
              exact absurd H (by simp)
          · rw [if_neg c38] at H
            exact absurd H (by simp)
        · rw [if_neg c37] at H
          exact absurd H (by simp)
      · rw [if_neg c36] at H
        have c36b0 : ((t108.length : Int) == 3) = false := beq_eq_false_iff_ne.mpr c36
        have c36b1 : ((t108.length : Int) != 3) = true := bne_iff_ne.mpr c36
        simp only [Option.some.injEq, Prod.mk.injEq] at H
        obtain ⟨rfl, rfl, rfl, rfl⟩ := H
        go_enter Try.func31, Try.ntmps31
        go_wp2_with (first | ((with_reducible refine gate_callee (f := 39) rfl ?_); refine goesL_ (some 8) rfl rfl Try.func39 (by kernel_rfl) rfl #[.string a0, .string (⟨#[58]⟩ : ByteArray)] rfl (by (try simp only [List.map_toArray, List.map_cons, List.map_nil]); first | done | rfl | (simp only [List.length_drop, List.length_take]; rfl)) ?_; (with_reducible refine (net_zzSplit.calls k a0 (⟨#[58]⟩ : ByteArray) t108 _ A2.out).mono ?_); rintro e w54 ⟨v109, rfl, ho0, hb⟩; refine ⟨_, rfl, ?_⟩; have n0_ := Aside0.mk (Kd.R_lower ho0 (below_size (by repeat (first | (with_reducible first | exact HB.out | apply below_alloc | apply pw_below_drewN | apply below_drew1) | exact HB.out)))); have n1_ := Aside0.mk (below_step (by repeat (first | (with_reducible first | exact HB.out | apply below_alloc | apply pw_below_drewN | apply below_drew1) | exact HB.out)) hb); clear HB; have HO110 := n0_; have HB := n1_; clear n0_ n1_; (try clear hb); (try clear hb2); (try clear hk); (try clear hi); (try clear ho0); obtain ⟨Ao55, co55, eo55⟩ := Kd.R_slice HO110.out; subst eo55))
        refine bodyPost_ret (results_list (rs := [.tmp 2, .tmp 3, .tmp 4, .tmp 5]) rfl (by simp) (.tmp (.tmp (.tmp (.tmp .nil))))) rfl ?_
        exact ⟨by first | rfl | (simp [errW_none, errW_some] <;> rfl) | (simp [*, errW_none, errW_some] <;> rfl) | (exfalso; contradiction), by repeat (first | (with_reducible first | exact HB.out | apply below_alloc | apply pw_below_drewN | apply below_drew1) | exact HB.out)⟩

/-! ### impl_SchemeSplit: function 21 -/
def impl_SchemeSplit.f (k : Nat) (a0 : ByteArray) : Option (ByteArray × ByteArray × ByteArray × Bool) := (net_SplitSchemeNamePort.f k a0).bind fun bt117 => (some (bt117.1, bt117.2.1, bt117.2.2.1, bt117.2.2.2))
theorem impl_SchemeSplit.mono : ∀ a0 k, LeO (impl_SchemeSplit.f k a0) (impl_SchemeSplit.f (k + 1) a0) := by
  intro a0 k
  unfold impl_SchemeSplit.f
  repeat' first
      | (with_reducible exact net_SplitSchemeNamePort.mono _ _)
      | (with_reducible exact LeO.refl _)
      | (with_reducible exact LeO.none _)
      | (with_reducible refine LeO.ite ?_ ?_)
      | (with_reducible refine LeO.bind ?_ (fun _ => ?_))
      | exact net_SplitSchemeNamePort.mono _ _
      | exact LeO.none _
      | refine LeO.ite ?_ ?_
      | refine LeO.bind ?_ (fun _ => ?_)
set_option maxHeartbeats 8000000 in
set_option maxRecDepth 100000 in
theorem impl_SchemeSplit.calls (k : Nat) (a0 : ByteArray) (r1 : ByteArray) (r2 : ByteArray) (r3 : ByteArray) (r4 : Bool) (w : World) (h : impl_SchemeSplit.f k a0 = some (r1, r2, r3, r4)) :
    Calls Try.prog 21 #[.string a0] w fun e w' => e = .returned (.tuple #[.string r1, .string r2, .string r3, .bool r4]) ∧ Below w.heap.size w w' := by
  have HB := Aside0.mk (Below.refl w.heap.size w)
  have H : ((net_SplitSchemeNamePort.f k a0).bind fun bt117 => (some (bt117.1, bt117.2.1, bt117.2.2.1, bt117.2.2.2))) = some (r1, r2, r3, r4) := h
  clear h
  replace H := Option.bind_eq_some_iff.mp H
  obtain ⟨⟨t117, t118, t119, t120⟩, A20, H⟩ := H
  replace H : (some (t117, t118, t119, t120)) = some (r1, r2, r3, r4) := H
  have A2 := Aside0.mk A20
  clear A20
  simp only [Option.some.injEq, Prod.mk.injEq] at H
  obtain ⟨rfl, rfl, rfl, rfl⟩ := H
  go_enter Try.func21, Try.ntmps21
  go_wp2_with (first | ((with_reducible refine gate_callee (f := 31) rfl ?_); refine goesL_ (some 7) rfl rfl Try.func31 (by kernel_rfl) rfl #[.string a0] rfl (by (try simp only [List.map_toArray, List.map_cons, List.map_nil]); first | done | rfl | (simp only [List.length_drop, List.length_take]; rfl)) ?_; (with_reducible refine (net_SplitSchemeNamePort.calls k a0 t117 t118 t119 t120 _ A2.out).mono ?_); rintro e w3 ⟨rfl, hb⟩; refine ⟨_, rfl, ?_⟩; have n0_ := Aside0.mk (below_step (by repeat (first | (with_reducible first | exact HB.out | apply below_alloc | apply pw_below_drewN | apply below_drew1) | exact HB.out)) hb); clear HB; have HB := n0_; clear n0_; (try clear hb); (try clear hb2); (try clear hk); (try clear hi)))
  refine bodyPost_ret (results_list (rs := [.tmp 2, .tmp 3, .tmp 4, .tmp 5]) rfl (by simp) (.tmp (.tmp (.tmp (.tmp .nil))))) rfl ?_
  exact ⟨by first | rfl | (simp [errW_none, errW_some] <;> rfl) | (simp [*, errW_none, errW_some] <;> rfl) | (exfalso; contradiction), by repeat (first | (with_reducible first | exact HB.out | apply below_alloc | apply pw_below_drewN | apply below_drew1) | exact HB.out)⟩

/-! ### spec_keyIn_string: function 40 -/
def spec_keyIn_string.l0 : Nat → List ByteArray → ByteArray → Int → Option (Bool)
  | 0, _, _, _ => none
  | k + 1, x0, x1, x5 => if x5 < (x0.length : Int) then (if 0 ≤ x5 then (if (rdOf ByteArray.empty x0 x5).toList = x1.toList then (some true) else (spec_keyIn_string.l0 k x0 x1 (wrap64 (x5 + 1)))) else (none)) else (some false)
def spec_keyIn_string.f (k : Nat) (l0 : List ByteArray) (a1 : ByteArray) : Option (Bool) := spec_keyIn_string.l0 k l0 a1 0
theorem spec_keyIn_string.mono_l : ∀ k, (∀ y0 y1 y2, LeO (spec_keyIn_string.l0 k y0 y1 y2) (spec_keyIn_string.l0 (k + 1) y0 y1 y2))
  | 0 => fun _ _ _ r h => by simp [spec_keyIn_string.l0] at h
  | k + 1 => by
    have ih0 := spec_keyIn_string.mono_l k
    · intro y0 y1 y2
      unfold spec_keyIn_string.l0
      repeat' first
      | (with_reducible exact ih0 _ _ _)
      | (with_reducible exact LeO.refl _)
      | (with_reducible exact LeO.none _)
      | (with_reducible refine LeO.ite ?_ ?_)
      | (with_reducible refine LeO.bind ?_ (fun _ => ?_))
      | exact ih0 _ _ _
      | exact LeO.none _
      | refine LeO.ite ?_ ?_
      | refine LeO.bind ?_ (fun _ => ?_)
theorem spec_keyIn_string.mono : ∀ a0 a1 k, LeO (spec_keyIn_string.f k a0 a1) (spec_keyIn_string.f (k + 1) a0 a1) := by
  intro a0 a1 k
  have ih0 := spec_keyIn_string.mono_l k
  unfold spec_keyIn_string.f
  repeat' first
      | (with_reducible exact ih0 _ _ _)
      | (with_reducible exact LeO.refl _)
      | (with_reducible exact LeO.none _)
      | (with_reducible refine LeO.ite ?_ ?_)
      | (with_reducible refine LeO.bind ?_ (fun _ => ?_))
      | exact ih0 _ _ _
      | exact LeO.none _
      | refine LeO.ite ?_ ?_
      | refine LeO.bind ?_ (fun _ => ?_)
set_option maxHeartbeats 8000000 in
set_option maxRecDepth 100000 in
theorem spec_keyIn_string.calls (k : Nat) (A0 : Option Addr) (c0 : Nat) (l0 : List ByteArray) (a1 : ByteArray) (r : Bool) (w : World) (hr0 : Kd.C Kd.string w A0 l0.length l0) (hc0 : l0.length ≤ c0) (h : spec_keyIn_string.f k l0 a1 = some r) :
    Calls Try.prog 40 #[.slice A0 l0.length c0, .string a1] w fun e w' => e = .returned (.bool r) ∧ Drawn0 w w' := by
  have HR0 := Aside0.mk hr0
  have HC0 := Aside0.mk hc0
  clear hr0 hc0
  have H : (spec_keyIn_string.l0 k l0 a1 0) = some r := h
  clear h
  have H' := Aside0.mk H
  clear H
  go_enter Try.func40, Try.ntmps40
  go_wp2
  go_loopg [5] k (fun kq v5 w' => ∃ (x5_1 : Int), v5 = .int .i64 x5_1 ∧ Aside0 (spec_keyIn_string.l0 kq l0 a1 x5_1 = some r) ∧ Aside0 (kq ≤ k) ∧ Drawn0 w w')
  case atStart => exact ⟨(0), (by first | rfl | (simp; done) | (simp [*]; done)), H', ⟨Nat.le_refl _⟩, by repeat (first | exact Drawn0.refl _ | apply Drawn0.step)⟩
  case round =>
    clear H'
    try clear p2
    obtain ⟨x5_1, rfl, HA, HK1, ⟨m1, rfl⟩⟩ := hrel
    cases gk with
    | zero => exact absurd HA.out (by simp [spec_keyIn_string.l0])
    | succ k1 =>
      have H := HA.out
      clear HA
      simp only [spec_keyIn_string.l0] at H
      by_cases c3 : x5_1 < (l0.length : Int)
      · rw [if_pos c3] at H
        have c3b0 : decide (x5_1 < (l0.length : Int)) = true := decide_eq_true c3
        clear c3
        by_cases c4 : 0 ≤ x5_1
        · rw [if_pos c4] at H
          have c4b0 : decide (0 ≤ x5_1) = true := decide_eq_true c4
          clear c4
          by_cases c5 : (rdOf ByteArray.empty l0 x5_1).toList = a1.toList
          · rw [if_pos c5] at H
            have c5b0 : ((rdOf ByteArray.empty l0 x5_1).toList == a1.toList) = true := beq_iff_eq.mpr c5
            have c5b1 : ((rdOf ByteArray.empty l0 x5_1).toList != a1.toList) = false := bne_eq_false_iff_eq.mpr c5
            clear c5
            obtain rfl := Option.some.inj H
            have p121 : 0 ≤ (x5_1 : Int) := of_decide_eq_true (by first | (with_reducible assumption) | assumption)
            have q121 : x5_1 < (l0.length : Int) := of_decide_eq_true (by first | (with_reducible assumption) | assumption)
            obtain ⟨ad121, e121, hx121_0⟩ := Kd.at_string HR0.out x5_1 p121 q121
            cases e121
            replace p121 := eq_true p121
            replace q121 := eq_true q121
            go_wp2
            go_ret
            exact ⟨by first | rfl | (simp; done) | (simp [*]; done), by repeat (first | exact Drawn0.refl _ | apply Drawn0.step)⟩
          · rw [if_neg c5] at H
            have c5b0 : ((rdOf ByteArray.empty l0 x5_1).toList == a1.toList) = false := beq_eq_false_iff_ne.mpr c5
            have c5b1 : ((rdOf ByteArray.empty l0 x5_1).toList != a1.toList) = true := bne_iff_ne.mpr c5
            have H' := Aside0.mk H
            clear H
            have p121 : 0 ≤ (x5_1 : Int) := of_decide_eq_true (by first | (with_reducible assumption) | assumption)
            have q121 : x5_1 < (l0.length : Int) := of_decide_eq_true (by first | (with_reducible assumption) | assumption)
            obtain ⟨ad121, e121, hx121_0⟩ := Kd.at_string HR0.out x5_1 p121 q121
            cases e121
            replace p121 := eq_true p121
            replace q121 := eq_true q121
            go_wp2
            go_roundg k1
            case measure => have := HK1.out; omega
            case rel => exact ⟨(wrap64 (x5_1 + 1)), (by first | rfl | (simp; done) | (simp [*]; done)), H', ⟨by have := HK1.out; omega⟩, by repeat (first | exact Drawn0.refl _ | apply Drawn0.step)⟩
        · rw [if_neg c4] at H
          exact absurd H (by simp)
      · rw [if_neg c3] at H
        have c3b0 : decide (x5_1 < (l0.length : Int)) = false := decide_eq_false c3
        clear c3
        obtain rfl := Option.some.inj H
        go_wp2
        go_ret
        exact ⟨by first | rfl | (simp; done) | (simp [*]; done), by repeat (first | exact Drawn0.refl _ | apply Drawn0.step)⟩

/-! ### spec_SchemeMay: function 32 -/
def spec_SchemeMay.f (k : Nat) (a0 : ByteArray) (a1 : ByteArray) (a2 : ByteArray) : Option (Bool) := (spec_keyIn_string.f k (([(⟨#[]⟩ : ByteArray), (⟨#[104, 116, 116, 112]⟩ : ByteArray), (⟨#[104, 116, 116, 112, 115]⟩ : ByteArray)] : List ByteArray)) a0).bind fun t125 => (if t125 = true then (if a1.toList = ([] : List UInt8) then (some false) else ((spec_Split.f k a1 58).bind fun t126 => (if (t126.length : Int) = 1 then ((spec_Split.f k a2 58).bind fun t129 => (some ((t129.length : Int) == 1))) else (some false)))) else (some false))
theorem spec_SchemeMay.mono : ∀ a0 a1 a2 k, LeO (spec_SchemeMay.f k a0 a1 a2) (spec_SchemeMay.f (k + 1) a0 a1 a2) := by
  intro a0 a1 a2 k
  unfold spec_SchemeMay.f
  repeat' first
      | (with_reducible exact spec_Split.mono _ _ _)
      | (with_reducible exact spec_keyIn_string.mono _ _ _)
      | (with_reducible exact LeO.refl _)
      | (with_reducible exact LeO.none _)
      | (with_reducible refine LeO.ite ?_ ?_)
      | (with_reducible refine LeO.bind ?_ (fun _ => ?_))
      | exact spec_Split.mono _ _ _
      | exact spec_keyIn_string.mono _ _ _
      | exact LeO.none _
      | refine LeO.ite ?_ ?_
      | refine LeO.bind ?_ (fun _ => ?_)
set_option maxHeartbeats 8000000 in
set_option maxRecDepth 100000 in
theorem spec_SchemeMay.calls (k : Nat) (a0 : ByteArray) (a1 : ByteArray) (a2 : ByteArray) (r : Bool) (w : World) (h : spec_SchemeMay.f k a0 a1 a2 = some r) :
    Calls Try.prog 32 #[.string a0, .string a1, .string a2] w fun e w' => e = .returned (.bool r) ∧ Below w.heap.size w w' := by
  have HB := Aside0.mk (Below.refl w.heap.size w)
  have H : ((spec_keyIn_string.f k (([(⟨#[]⟩ : ByteArray), (⟨#[104, 116, 116, 112]⟩ : ByteArray), (⟨#[104, 116, 116, 112, 115]⟩ : ByteArray)] : List ByteArray)) a0).bind fun t125 => (if t125 = true then (if a1.toList = ([] : List UInt8) then (some false) else ((spec_Split.f k a1 58).bind fun t126 => (if (t126.length : Int) = 1 then ((spec_Split.f k a2 58).bind fun t129 => (some ((t129.length : Int) == 1))) else (some false)))) else (some false))) = some r := h
  clear h
  obtain ⟨y122, hy122⟩ : ∃ y_ : List ByteArray, y_ = (([(⟨#[]⟩ : ByteArray), (⟨#[104, 116, 116, 112]⟩ : ByteArray), (⟨#[104, 116, 116, 112, 115]⟩ : ByteArray)] : List ByteArray)) := ⟨_, rfl⟩
  replace H : ((spec_keyIn_string.f k y122 a0).bind fun t125 => (if t125 = true then (if a1.toList = ([] : List UInt8) then (some false) else ((spec_Split.f k a1 58).bind fun t126 => (if (t126.length : Int) = 1 then ((spec_Split.f k a2 58).bind fun t129 => (some ((t129.length : Int) == 1))) else (some false)))) else (some false))) = some r := by first | (rw [hy122]; with_reducible exact H) | (have H2_ := (Option.bind_some _ _).symm.trans H; rw [hy122]; with_reducible exact H2_) | (have H2_ := (Option.bind_some _ _).symm.trans H; with_reducible exact H2_) | with_reducible exact H | (rw [hy122]; exact H) | exact H
  have Ny122 := Aside0.mk hy122
  clear hy122
  replace H := Option.bind_eq_some_iff.mp H
  obtain ⟨t125, A40, H⟩ := H
  replace H : (if t125 = true then (if a1.toList = ([] : List UInt8) then (some false) else ((spec_Split.f k a1 58).bind fun t126 => (if (t126.length : Int) = 1 then ((spec_Split.f k a2 58).bind fun t129 => (some ((t129.length : Int) == 1))) else (some false)))) else (some false)) = some r := H
  have A4 := Aside0.mk A40
  clear A40
  by_cases c5 : t125 = true
  · subst c5
    have H1 : (if a1.toList = ([] : List UInt8) then (some false) else ((spec_Split.f k a1 58).bind fun t126 => (if (t126.length : Int) = 1 then ((spec_Split.f k a2 58).bind fun t129 => (some ((t129.length : Int) == 1))) else (some false)))) = some r := by rw [if_pos rfl] at H; exact H
    clear H
    have H := H1
    clear H1
    by_cases c6 : a1.toList = ([] : List UInt8)
    · rw [if_pos c6] at H
      have c6b0 : (a1.toList == ([] : List UInt8)) = true := beq_iff_eq.mpr c6
      have c6b1 : (a1.toList != ([] : List UInt8)) = false := bne_eq_false_iff_eq.mpr c6
      clear c6
      obtain rfl := Option.some.inj H
      go_enter Try.func32, Try.ntmps32
      go_wp2_with (first | ((with_reducible refine gate_dst (N := 7) rfl ?_); (try (refine gate_guard (by rfl) ?_; dsimp only)); refine Kd.R_lit Kd.string _ 9 ?hg (N := 7) ?hd (xs := ([(⟨#[]⟩ : ByteArray), (⟨#[104, 116, 116, 112]⟩ : ByteArray), (⟨#[104, 116, 116, 112, 115]⟩ : ByteArray)] : List ByteArray)) (inner := [.string (⟨#[]⟩ : ByteArray), .string (⟨#[104, 116, 116, 112]⟩ : ByteArray), .string (⟨#[104, 116, 116, 112, 115]⟩ : ByteArray)]) (ok := fun _ => True) (okp := fun _ => True) ?hr ?hp (fun _ hk => hk) trivial (Below.refl _ _) (Nat.le_refl _) (by simp) ?_; (case hd => rfl); (case hg => rfl); (case hr => first | (go_simp; done) | (go_simp; rfl)); (case hp => exact (Reps.one (show Kd.M Kd.string _ _ _ (⟨#[]⟩ : ByteArray) [.string (⟨#[]⟩ : ByteArray)] from rfl) (Reps.one (show Kd.M Kd.string _ _ _ (⟨#[104, 116, 116, 112]⟩ : ByteArray) [.string (⟨#[104, 116, 116, 112]⟩ : ByteArray)] from rfl) (Reps.one (show Kd.M Kd.string _ _ _ (⟨#[104, 116, 116, 112, 115]⟩ : ByteArray) [.string (⟨#[104, 116, 116, 112, 115]⟩ : ByteArray)] from rfl) (Reps.none _ _))))); intro v123 w7 ho8 hb hg_ hnew_; clear hg_ hnew_; (first | rw [← Ny122.out] at ho8 | (simp only [Int.reduceToNat] at ho8; rw [← Ny122.out] at ho8)); have n0_ := Aside0.mk (Kd.R_lower ho8 (below_size (by repeat (first | (with_reducible first | exact HB.out | apply below_alloc | apply pw_below_drewN | apply below_drew1) | exact HB.out)))); have n1_ := Aside0.mk (below_step (by repeat (first | (with_reducible first | exact HB.out | apply below_alloc | apply pw_below_drewN | apply below_drew1) | exact HB.out)) hb); clear HB; have HO124 := n0_; have HB := n1_; clear n0_ n1_; clear hb ho8; obtain ⟨Ao9, co9, eo9⟩ := Kd.R_slice HO124.out; subst eo9) | ((with_reducible refine gate_callee (f := 40) rfl ?_); refine goesL_ (some 9) rfl rfl Try.func40 (by kernel_rfl) rfl #[.slice Ao9 y122.length co9, .string a0] rfl (by (try simp only [List.map_toArray, List.map_cons, List.map_nil]); first | done | rfl | (simp only [List.length_drop, List.length_take]; rfl)) ?_; (with_reducible refine (spec_keyIn_string.calls k _ _ y122 a0 true _ ?side1 ?side2 A4.out).mono ?_); (case side1 => repeat (first | exact (Kd.R_reads' HO124.out).2.2 | (with_reducible refine Kd.C_alloc ?_ _) | (with_reducible refine Kd.C_drewN ?_ _) | (with_reducible refine Kd.C_drew ?_))); (case side2 => exact (Kd.R_reads' HO124.out).2.1); rintro e w' ⟨rfl, ⟨nd, rfl⟩⟩; refine ⟨_, rfl, ?_⟩))
      go_ret
      exact ⟨by first | rfl | (simp [errW_none, errW_some] <;> rfl) | (simp [*, errW_none, errW_some] <;> rfl) | (exfalso; contradiction), by repeat (first | (with_reducible first | exact HB.out | apply below_alloc | apply pw_below_drewN | apply below_drew1) | exact HB.out)⟩
    · rw [if_neg c6] at H
      have c6b0 : (a1.toList == ([] : List UInt8)) = false := beq_eq_false_iff_ne.mpr c6
      have c6b1 : (a1.toList != ([] : List UInt8)) = true := bne_iff_ne.mpr c6
      replace H := Option.bind_eq_some_iff.mp H
      obtain ⟨t126, A100, H⟩ := H
      replace H : (if (t126.length : Int) = 1 then ((spec_Split.f k a2 58).bind fun t129 => (some ((t129.length : Int) == 1))) else (some false)) = some r := H
      have A10 := Aside0.mk A100
      clear A100
      by_cases c11 : (t126.length : Int) = 1
      · rw [if_pos c11] at H
        have c11b0 : ((t126.length : Int) == 1) = true := beq_iff_eq.mpr c11
        have c11b1 : ((t126.length : Int) != 1) = false := bne_eq_false_iff_eq.mpr c11
        clear c11
        replace H := Option.bind_eq_some_iff.mp H
        obtain ⟨t129, A120, H⟩ := H
        replace H : (some ((t129.length : Int) == 1)) = some r := H
        have A12 := Aside0.mk A120
        clear A120
        obtain rfl := Option.some.inj H
        go_enter Try.func32, Try.ntmps32
        go_wp2_with (first | ((with_reducible refine gate_dst (N := 7) rfl ?_); (try (refine gate_guard (by rfl) ?_; dsimp only)); refine Kd.R_lit Kd.string _ 9 ?hg (N := 7) ?hd (xs := ([(⟨#[]⟩ : ByteArray), (⟨#[104, 116, 116, 112]⟩ : ByteArray), (⟨#[104, 116, 116, 112, 115]⟩ : ByteArray)] : List ByteArray)) (inner := [.string (⟨#[]⟩ : ByteArray), .string (⟨#[104, 116, 116, 112]⟩ : ByteArray), .string (⟨#[104, 116, 116, 112, 115]⟩ : ByteArray)]) (ok := fun _ => True) (okp := fun _ => True) ?hr ?hp (fun _ hk => hk) trivial (Below.refl _ _) (Nat.le_refl _) (by simp) ?_; (case hd => rfl); (case hg => rfl); (case hr => first | (go_simp; done) | (go_simp; rfl)); (case hp => exact (Reps.one (show Kd.M Kd.string _ _ _ (⟨#[]⟩ : ByteArray) [.string (⟨#[]⟩ : ByteArray)] from rfl) (Reps.one (show Kd.M Kd.string _ _ _ (⟨#[104, 116, 116, 112]⟩ : ByteArray) [.string (⟨#[104, 116, 116, 112]⟩ : ByteArray)] from rfl) (Reps.one (show Kd.M Kd.string _ _ _ (⟨#[104, 116, 116, 112, 115]⟩ : ByteArray) [.string (⟨#[104, 116, 116, 112, 115]⟩ : ByteArray)] from rfl) (Reps.none _ _))))); intro v123 w13 ho14 hb hg_ hnew_; clear hg_ hnew_; (first | rw [← Ny122.out] at ho14 | (simp only [Int.reduceToNat] at ho14; rw [← Ny122.out] at ho14)); have n0_ := Aside0.mk (Kd.R_lower ho14 (below_size (by repeat (first | (with_reducible first | exact HB.out | apply below_alloc | apply pw_below_drewN | apply below_drew1) | exact HB.out)))); have n1_ := Aside0.mk (below_step (by repeat (first | (with_reducible first | exact HB.out | apply below_alloc | apply pw_below_drewN | apply below_drew1) | exact HB.out)) hb); clear HB; have HO124 := n0_; have HB := n1_; clear n0_ n1_; clear hb ho14; obtain ⟨Ao15, co15, eo15⟩ := Kd.R_slice HO124.out; subst eo15) | ((with_reducible refine gate_callee (f := 40) rfl ?_); refine goesL_ (some 9) rfl rfl Try.func40 (by kernel_rfl) rfl #[.slice Ao15 y122.length co15, .string a0] rfl (by (try simp only [List.map_toArray, List.map_cons, List.map_nil]); first | done | rfl | (simp only [List.length_drop, List.length_take]; rfl)) ?_; (with_reducible refine (spec_keyIn_string.calls k _ _ y122 a0 true _ ?side1 ?side2 A4.out).mono ?_); (case side1 => repeat (first | exact (Kd.R_reads' HO124.out).2.2 | (with_reducible refine Kd.C_alloc ?_ _) | (with_reducible refine Kd.C_drewN ?_ _) | (with_reducible refine Kd.C_drew ?_))); (case side2 => exact (Kd.R_reads' HO124.out).2.1); rintro e w' ⟨rfl, ⟨nd, rfl⟩⟩; refine ⟨_, rfl, ?_⟩) | (go_at_call 20; (with_reducible refine (spec_Split.calls k a1 58 t126 _ A10.out).mono ?_); rintro e w16 ⟨v127, rfl, ho0, hb⟩; have n0_ := Aside0.mk (Kd.R_elder' (by (with_reducible repeat (first | apply Kd.R_alloc | apply Kd.R_drewN | apply Kd.R_drew)); exact HO124.out) (Kd.R_base ho0) hb); have n1_ := Aside0.mk (Kd.R_lower (Kd.R_new' ho0 (Kd.R_lt (by (with_reducible repeat (first | apply Kd.R_alloc | apply Kd.R_drewN | apply Kd.R_drew)); exact HO124.out))) (below_size (by repeat (first | (with_reducible first | exact HB.out | apply below_alloc | apply pw_below_drewN | apply below_drew1) | exact HB.out)))); have n2_ := Aside0.mk (below_step (by repeat (first | (with_reducible first | exact HB.out | apply below_alloc | apply pw_below_drewN | apply below_drew1) | exact HB.out)) hb); clear HO124; clear HB; have HO124 := n0_; have HO128 := n1_; have HB := n2_; clear n0_ n1_ n2_; (try clear hb); (try clear hb2); (try clear hk); (try clear hi); (try clear ho0); obtain ⟨Ao17, co17, eo17⟩ := Kd.R_slice HO128.out; subst eo17) | (go_at_call 20; (with_reducible refine (spec_Split.calls k a2 58 t129 _ A12.out).mono ?_); rintro e w18 ⟨v130, rfl, ho0, hb⟩; have n0_ := Aside0.mk (Kd.R_elder' (by (with_reducible repeat (first | apply Kd.R_alloc | apply Kd.R_drewN | apply Kd.R_drew)); exact HO124.out) (Kd.R_base ho0) hb); have n1_ := Aside0.mk (Kd.R_elder' (by (with_reducible repeat (first | apply Kd.R_alloc | apply Kd.R_drewN | apply Kd.R_drew)); exact HO128.out) (Kd.R_base ho0) hb); have n2_ := Aside0.mk (Kd.R_lower (Kd.R_new' (Kd.R_new' ho0 (Kd.R_lt (by (with_reducible repeat (first | apply Kd.R_alloc | apply Kd.R_drewN | apply Kd.R_drew)); exact HO124.out))) (Kd.R_lt (by (with_reducible repeat (first | apply Kd.R_alloc | apply Kd.R_drewN | apply Kd.R_drew)); exact HO128.out))) (below_size (by repeat (first | (with_reducible first | exact HB.out | apply below_alloc | apply pw_below_drewN | apply below_drew1) | exact HB.out)))); have n3_ := Aside0.mk (below_step (by repeat (first | (with_reducible first | exact HB.out | apply below_alloc | apply pw_below_drewN | apply below_drew1) | exact HB.out)) hb); clear HO124; clear HO128; clear HB; have HO124 := n0_; have HO128 := n1_; have HO131 := n2_; have HB := n3_; clear n0_ n1_ n2_ n3_; (try clear hb); (try clear hb2); (try clear hk); (try clear hi); (try clear ho0); obtain ⟨Ao19, co19, eo19⟩ := Kd.R_slice HO131.out; subst eo19))
        go_ret
        exact ⟨by first | rfl | (simp [errW_none, errW_some] <;> rfl) | (simp [*, errW_none, errW_some] <;> rfl) | (exfalso; contradiction), by repeat (first | (with_reducible first | exact HB.out | apply below_alloc | apply pw_below_drewN | apply below_drew1) | exact HB.out)⟩
      · rw [if_neg c11] at H
        have c11b0 : ((t126.length : Int) == 1) = false := beq_eq_false_iff_ne.mpr c11
        have c11b1 : ((t126.length : Int) != 1) = true := bne_iff_ne.mpr c11
        obtain rfl := Option.some.inj H
        go_enter Try.func32, Try.ntmps32
        go_wp2_with (first | ((with_reducible refine gate_dst (N := 7) rfl ?_); (try (refine gate_guard (by rfl) ?_; dsimp only)); refine Kd.R_lit Kd.string _ 9 ?hg (N := 7) ?hd (xs := ([(⟨#[]⟩ : ByteArray), (⟨#[104, 116, 116, 112]⟩ : ByteArray), (⟨#[104, 116, 116, 112, 115]⟩ : ByteArray)] : List ByteArray)) (inner := [.string (⟨#[]⟩ : ByteArray), .string (⟨#[104, 116, 116, 112]⟩ : ByteArray), .string (⟨#[104, 116, 116, 112, 115]⟩ : ByteArray)]) (ok := fun _ => True) (okp := fun _ => True) ?hr ?hp (fun _ hk => hk) trivial (Below.refl _ _) (Nat.le_refl _) (by simp) ?_; (case hd => rfl); (case hg => rfl); (case hr => first | (go_simp; done) | (go_simp; rfl)); (case hp => exact (Reps.one (show Kd.M Kd.string _ _ _ (⟨#[]⟩ : ByteArray) [.string (⟨#[]⟩ : ByteArray)] from rfl) (Reps.one (show Kd.M Kd.string _ _ _ (⟨#[104, 116, 116, 112]⟩ : ByteArray) [.string (⟨#[104, 116, 116, 112]⟩ : ByteArray)] from rfl) (Reps.one (show Kd.M Kd.string _ _ _ (⟨#[104, 116, 116, 112, 115]⟩ : ByteArray) [.string (⟨#[104, 116, 116, 112, 115]⟩ : ByteArray)] from rfl) (Reps.none _ _))))); intro v123 w20 ho21 hb hg_ hnew_; clear hg_ hnew_; (first | rw [← Ny122.out] at ho21 | (simp only [Int.reduceToNat] at ho21; rw [← Ny122.out] at ho21)); have n0_ := Aside0.mk (Kd.R_lower ho21 (below_size (by repeat (first | (with_reducible first | exact HB.out | apply below_alloc | apply pw_below_drewN | apply below_drew1) | exact HB.out)))); have n1_ := Aside0.mk (below_step (by repeat (first | (with_reducible first | exact HB.out | apply below_alloc | apply pw_below_drewN | apply below_drew1) | exact HB.out)) hb); clear HB; have HO124 := n0_; have HB := n1_; clear n0_ n1_; clear hb ho21; obtain ⟨Ao22, co22, eo22⟩ := Kd.R_slice HO124.out; subst eo22) | ((with_reducible refine gate_callee (f := 40) rfl ?_); refine goesL_ (some 9) rfl rfl Try.func40 (by kernel_rfl) rfl #[.slice Ao22 y122.length co22, .string a0] rfl (by (try simp only [List.map_toArray, List.map_cons, List.map_nil]); first | done | rfl | (simp only [List.length_drop, List.length_take]; rfl)) ?_; (with_reducible refine (spec_keyIn_string.calls k _ _ y122 a0 true _ ?side1 ?side2 A4.out).mono ?_); (case side1 => repeat (first | exact (Kd.R_reads' HO124.out).2.2 | (with_reducible refine Kd.C_alloc ?_ _) | (with_reducible refine Kd.C_drewN ?_ _) | (with_reducible refine Kd.C_drew ?_))); (case side2 => exact (Kd.R_reads' HO124.out).2.1); rintro e w' ⟨rfl, ⟨nd, rfl⟩⟩; refine ⟨_, rfl, ?_⟩) | (go_at_call 20; (with_reducible refine (spec_Split.calls k a1 58 t126 _ A10.out).mono ?_); rintro e w23 ⟨v127, rfl, ho0, hb⟩; have n0_ := Aside0.mk (Kd.R_elder' (by (with_reducible repeat (first | apply Kd.R_alloc | apply Kd.R_drewN | apply Kd.R_drew)); exact HO124.out) (Kd.R_base ho0) hb); have n1_ := Aside0.mk (Kd.R_lower (Kd.R_new' ho0 (Kd.R_lt (by (with_reducible repeat (first | apply Kd.R_alloc | apply Kd.R_drewN | apply Kd.R_drew)); exact HO124.out))) (below_size (by repeat (first | (with_reducible first | exact HB.out | apply below_alloc | apply pw_below_drewN | apply below_drew1) | exact HB.out)))); have n2_ := Aside0.mk (below_step (by repeat (first | (with_reducible first | exact HB.out | apply below_alloc | apply pw_below_drewN | apply below_drew1) | exact HB.out)) hb); clear HO124; clear HB; have HO124 := n0_; have HO128 := n1_; have HB := n2_; clear n0_ n1_ n2_; (try clear hb); (try clear hb2); (try clear hk); (try clear hi); (try clear ho0); obtain ⟨Ao24, co24, eo24⟩ := Kd.R_slice HO128.out; subst eo24))
        go_ret
        exact ⟨by first | rfl | (simp [errW_none, errW_some] <;> rfl) | (simp [*, errW_none, errW_some] <;> rfl) | (exfalso; contradiction), by repeat (first | (with_reducible first | exact HB.out | apply below_alloc | apply pw_below_drewN | apply below_drew1) | exact HB.out)⟩
  · replace c5 := Bool.eq_false_iff.mpr c5
    subst c5
    have H1 : (some false) = some r := by rw [if_neg (show ¬ (false = true) by decide)] at H; exact H
    clear H
    have H := H1
    clear H1
    obtain rfl := Option.some.inj H
    go_enter Try.func32, Try.ntmps32
    go_wp2_with (first | ((with_reducible refine gate_dst (N := 7) rfl ?_); (try (refine gate_guard (by rfl) ?_; dsimp only)); refine Kd.R_lit Kd.string _ 9 ?hg (N := 7) ?hd (xs := ([(⟨#[]⟩ : ByteArray), (⟨#[104, 116, 116, 112]⟩ : ByteArray), (⟨#[104, 116, 116, 112, 115]⟩ : ByteArray)] : List ByteArray)) (inner := [.string (⟨#[]⟩ : ByteArray), .string (⟨#[104, 116, 116, 112]⟩ : ByteArray), .string (⟨#[104, 116, 116, 112, 115]⟩ : ByteArray)]) (ok := fun _ => True) (okp := fun _ => True) ?hr ?hp (fun _ hk => hk) trivial (Below.refl _ _) (Nat.le_refl _) (by simp) ?_; (case hd => rfl); (case hg => rfl); (case hr => first | (go_simp; done) | (go_simp; rfl)); (case hp => exact (Reps.one (show Kd.M Kd.string _ _ _ (⟨#[]⟩ : ByteArray) [.string (⟨#[]⟩ : ByteArray)] from rfl) (Reps.one (show Kd.M Kd.string _ _ _ (⟨#[104, 116, 116, 112]⟩ : ByteArray) [.string (⟨#[104, 116, 116, 112]⟩ : ByteArray)] from rfl) (Reps.one (show Kd.M Kd.string _ _ _ (⟨#[104, 116, 116, 112, 115]⟩ : ByteArray) [.string (⟨#[104, 116, 116, 112, 115]⟩ : ByteArray)] from rfl) (Reps.none _ _))))); intro v123 w25 ho26 hb hg_ hnew_; clear hg_ hnew_; (first | rw [← Ny122.out] at ho26 | (simp only [Int.reduceToNat] at ho26; rw [← Ny122.out] at ho26)); have n0_ := Aside0.mk (Kd.R_lower ho26 (below_size (by repeat (first | (with_reducible first | exact HB.out | apply below_alloc | apply pw_below_drewN | apply below_drew1) | exact HB.out)))); have n1_ := Aside0.mk (below_step (by repeat (first | (with_reducible first | exact HB.out | apply below_alloc | apply pw_below_drewN | apply below_drew1) | exact HB.out)) hb); clear HB; have HO124 := n0_; have HB := n1_; clear n0_ n1_; clear hb ho26; obtain ⟨Ao27, co27, eo27⟩ := Kd.R_slice HO124.out; subst eo27) | ((with_reducible refine gate_callee (f := 40) rfl ?_); refine goesL_ (some 9) rfl rfl Try.func40 (by kernel_rfl) rfl #[.slice Ao27 y122.length co27, .string a0] rfl (by (try simp only [List.map_toArray, List.map_cons, List.map_nil]); first | done | rfl | (simp only [List.length_drop, List.length_take]; rfl)) ?_; (with_reducible refine (spec_keyIn_string.calls k _ _ y122 a0 false _ ?side1 ?side2 A4.out).mono ?_); (case side1 => repeat (first | exact (Kd.R_reads' HO124.out).2.2 | (with_reducible refine Kd.C_alloc ?_ _) | (with_reducible refine Kd.C_drewN ?_ _) | (with_reducible refine Kd.C_drew ?_))); (case side2 => exact (Kd.R_reads' HO124.out).2.1); rintro e w' ⟨rfl, ⟨nd, rfl⟩⟩; refine ⟨_, rfl, ?_⟩))
    go_ret
    exact ⟨by first | rfl | (simp [errW_none, errW_some] <;> rfl) | (simp [*, errW_none, errW_some] <;> rfl) | (exfalso; contradiction), by repeat (first | (with_reducible first | exact HB.out | apply below_alloc | apply pw_below_drewN | apply below_drew1) | exact HB.out)⟩

end Go.Proofs.Ytgidpggooclebaa.PFnScheme
