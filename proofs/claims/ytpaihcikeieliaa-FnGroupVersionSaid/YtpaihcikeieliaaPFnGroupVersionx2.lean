/- Functions of the program as plain Lean functions, and that the machine's calls do what these say: written for this claim by wip/myprint.py over the kit's print.py. -/
import Derived.Test.YtpaihcikeieliaaPFnGroupVersionx0
namespace Go.Proofs.Ytpaihcikeieliaa.PFnGroupVersion
open Go.RowKit Go.Proofs.YtpaihcikeieliaaW.PrintWords Go.Proofs.YtpaihcikeieliaaW.PrintLast Go.Proofs.YtpaihcikeieliaaW.PrintMore
attribute [local go_sem] max2_int min2_int max_two min_two max_three min_three max_four min_four   -- for this text's walks alone
set_option linter.unusedVariables false
set_option linter.unusedSimpArgs false

/-! ### schema_zzIndex: function 55 -/
def schema_zzIndex.l0 : Nat → ByteArray → ByteArray → Int → Option (Int)
  | 0, _, _, _ => none
  | k + 1, x0, x1, x5 => if (wrap64 (x5 + (x1.size : Int))) ≤ (x0.size : Int) then (if 0 ≤ x5 then (if x5 ≤ (wrap64 (x5 + (x1.size : Int))) then (if (x0.extract (x5 : Int).toNat ((wrap64 (x5 + (x1.size : Int))) : Int).toNat).toList = x1.toList then (some x5) else (schema_zzIndex.l0 k x0 x1 (wrap64 (x5 + 1)))) else (none)) else (none)) else (some (-1))
def schema_zzIndex.f (k : Nat) (a0 : ByteArray) (a1 : ByteArray) : Option (Int) := schema_zzIndex.l0 k a0 a1 0
theorem schema_zzIndex.mono_l : ∀ k, (∀ y0 y1 y2, LeO (schema_zzIndex.l0 k y0 y1 y2) (schema_zzIndex.l0 (k + 1) y0 y1 y2))
  | 0 => fun _ _ _ r h => by simp [schema_zzIndex.l0] at h
  | k + 1 => by
    have ih0 := schema_zzIndex.mono_l k
    · intro y0 y1 y2
      unfold schema_zzIndex.l0
      repeat' first
      | (with_reducible exact ih0 _ _ _)
      | (with_reducible exact LeO.refl _)
      | (with_reducible exact LeO.none _)
      | (with_reducible refine LeO.ite ?_ ?_)
      | (with_reducible refine LeO.bind ?_ (fun _ => ?_))
      | exact ih0 _ _ _
      | exact LeO.none _
      | refine LeO.ite ?_ ?_
      | refine LeO.bind ?_ (fun _ => ?_)
theorem schema_zzIndex.mono : ∀ a0 a1 k, LeO (schema_zzIndex.f k a0 a1) (schema_zzIndex.f (k + 1) a0 a1) := by
  intro a0 a1 k
  have ih0 := schema_zzIndex.mono_l k
  unfold schema_zzIndex.f
  repeat' first
      | (with_reducible exact ih0 _ _ _)
      | (with_reducible exact LeO.refl _)
      | (with_reducible exact LeO.none _)
      | (with_reducible refine LeO.ite ?_ ?_)
      | (with_reducible refine LeO.bind ?_ (fun _ => ?_))
      | exact ih0 _ _ _
      | exact LeO.none _
      | refine LeO.ite ?_ ?_
      | refine LeO.bind ?_ (fun _ => ?_)
set_option maxHeartbeats 8000000 in
set_option maxRecDepth 100000 in
theorem schema_zzIndex.calls (k : Nat) (a0 : ByteArray) (a1 : ByteArray) (r : Int) (w : World) (h : schema_zzIndex.f k a0 a1 = some r) :
    Calls Try.prog 55 #[.string a0, .string a1] w fun e w' => e = .returned (.int .i64 r) ∧ Drawn0 w w' := by
  have H : (schema_zzIndex.l0 k a0 a1 0) = some r := h
  clear h
  have H' := Aside0.mk H
  clear H
  go_enter Try.func55, Try.ntmps55
  go_wp2
  go_loopg [5] k (fun kq v5 w' => ∃ (x5_1 : Int), v5 = .int .i64 x5_1 ∧ Aside0 (schema_zzIndex.l0 kq a0 a1 x5_1 = some r) ∧ Aside0 (kq ≤ k) ∧ Drawn0 w w')
  case atStart => exact ⟨(0), (by first | rfl | (simp; done) | (simp [*]; done)), H', ⟨Nat.le_refl _⟩, by repeat (first | exact Drawn0.refl _ | apply Drawn0.step)⟩
  case round =>
    clear H'
    try clear p2
    obtain ⟨x5_1, rfl, HA, HK1, ⟨m1, rfl⟩⟩ := hrel
    cases gk with
    | zero => exact absurd HA.out (by simp [schema_zzIndex.l0])
    | succ k1 =>
      have H := HA.out
      clear HA
      simp only [schema_zzIndex.l0] at H
      by_cases c3 : (wrap64 (x5_1 + (a1.size : Int))) ≤ (a0.size : Int)
      · rw [if_pos c3] at H
        have c3b0 : decide ((wrap64 (x5_1 + (a1.size : Int))) ≤ (a0.size : Int)) = true := decide_eq_true c3
        clear c3
        by_cases c4 : 0 ≤ x5_1
        · rw [if_pos c4] at H
          have c4b0 := eq_true c4
          have c4b1 : decide (0 ≤ x5_1) = true := decide_eq_true c4
          clear c4
          by_cases c5 : x5_1 ≤ (wrap64 (x5_1 + (a1.size : Int)))
          · rw [if_pos c5] at H
            have c5b0 := eq_true c5
            have c5b1 : decide (x5_1 ≤ (wrap64 (x5_1 + (a1.size : Int)))) = true := decide_eq_true c5
            have c6b0 := eq_true (of_decide_eq_true (by first | (with_reducible assumption) | assumption) : (wrap64 (x5_1 + (a1.size : Int))) ≤ (a0.size : Int))
            by_cases c7 : (a0.extract (x5_1 : Int).toNat ((wrap64 (x5_1 + (a1.size : Int))) : Int).toNat).toList = a1.toList
            · rw [if_pos c7] at H
              have c7b0 : ((a0.extract (x5_1 : Int).toNat ((wrap64 (x5_1 + (a1.size : Int))) : Int).toNat).toList == a1.toList) = true := beq_iff_eq.mpr c7
              have c7b1 : ((a0.extract (x5_1 : Int).toNat ((wrap64 (x5_1 + (a1.size : Int))) : Int).toNat).toList != a1.toList) = false := bne_eq_false_iff_eq.mpr c7
              clear c7
              obtain rfl := Option.some.inj H
              go_wp2
              go_ret
              exact ⟨by first | rfl | (simp; done) | (simp [*]; done), by repeat (first | exact Drawn0.refl _ | apply Drawn0.step)⟩
            · rw [if_neg c7] at H
              have c7b0 : ((a0.extract (x5_1 : Int).toNat ((wrap64 (x5_1 + (a1.size : Int))) : Int).toNat).toList == a1.toList) = false := beq_eq_false_iff_ne.mpr c7
              have c7b1 : ((a0.extract (x5_1 : Int).toNat ((wrap64 (x5_1 + (a1.size : Int))) : Int).toNat).toList != a1.toList) = true := bne_iff_ne.mpr c7
              have H' := Aside0.mk H
              clear H
              go_wp2
              go_roundg k1
              case measure => have := HK1.out; omega
              case rel => exact ⟨(wrap64 (x5_1 + 1)), (by first | rfl | (simp; done) | (simp [*]; done)), H', ⟨by have := HK1.out; omega⟩, by repeat (first | exact Drawn0.refl _ | apply Drawn0.step)⟩
          · rw [if_neg c5] at H
            exact absurd H (by simp)
        · rw [if_neg c4] at H
          exact absurd H (by simp)
      · rw [if_neg c3] at H
        have c3b0 : decide ((wrap64 (x5_1 + (a1.size : Int))) ≤ (a0.size : Int)) = false := decide_eq_false c3
        clear c3
        obtain rfl := Option.some.inj H
        go_wp2
        go_ret
        exact ⟨by first | rfl | (simp; done) | (simp [*]; done), by repeat (first | exact Drawn0.refl _ | apply Drawn0.step)⟩

/-! ### schema_zzCount: function 58 -/
def schema_zzCount.l1 : Nat → ByteArray → ByteArray → Int → Int → Option (Int)
  | 0, _, _, _, _ => none
  | k + 1, x0, x1, x5, x6 => if (wrap64 (x6 + (x1.size : Int))) ≤ (x0.size : Int) then (if 0 ≤ x6 then (if x6 ≤ (wrap64 (x6 + (x1.size : Int))) then (if (x0.extract (x6 : Int).toNat ((wrap64 (x6 + (x1.size : Int))) : Int).toNat).toList = x1.toList then (schema_zzCount.l1 k x0 x1 (wrap64 (x5 + 1)) (wrap64 (x6 + (x1.size : Int)))) else (schema_zzCount.l1 k x0 x1 x5 (wrap64 (x6 + 1)))) else (none)) else (none)) else (some x5)
def schema_zzCount.f (k : Nat) (a0 : ByteArray) (a1 : ByteArray) : Option (Int) := if (a1.size : Int) = 0 then (none) else (schema_zzCount.l1 k a0 a1 0 0)
theorem schema_zzCount.mono_l : ∀ k, (∀ y0 y1 y2 y3, LeO (schema_zzCount.l1 k y0 y1 y2 y3) (schema_zzCount.l1 (k + 1) y0 y1 y2 y3))
  | 0 => fun _ _ _ _ r h => by simp [schema_zzCount.l1] at h
  | k + 1 => by
    have ih0 := schema_zzCount.mono_l k
    · intro y0 y1 y2 y3
      unfold schema_zzCount.l1
      repeat' first
      | (with_reducible exact ih0 _ _ _ _)
      | (with_reducible exact LeO.refl _)
      | (with_reducible exact LeO.none _)
      | (with_reducible refine LeO.ite ?_ ?_)
      | (with_reducible refine LeO.bind ?_ (fun _ => ?_))
      | exact ih0 _ _ _ _
      | exact LeO.none _
      | refine LeO.ite ?_ ?_
      | refine LeO.bind ?_ (fun _ => ?_)
theorem schema_zzCount.mono : ∀ a0 a1 k, LeO (schema_zzCount.f k a0 a1) (schema_zzCount.f (k + 1) a0 a1) := by
  intro a0 a1 k
  have ih0 := schema_zzCount.mono_l k
  unfold schema_zzCount.f
  repeat' first
      | (with_reducible exact ih0 _ _ _ _)
      | (with_reducible exact LeO.refl _)
      | (with_reducible exact LeO.none _)
      | (with_reducible refine LeO.ite ?_ ?_)
      | (with_reducible refine LeO.bind ?_ (fun _ => ?_))
      | exact ih0 _ _ _ _
      | exact LeO.none _
      | refine LeO.ite ?_ ?_
      | refine LeO.bind ?_ (fun _ => ?_)
set_option maxHeartbeats 8000000 in
set_option maxRecDepth 100000 in
theorem schema_zzCount.calls (k : Nat) (a0 : ByteArray) (a1 : ByteArray) (r : Int) (w : World) (h : schema_zzCount.f k a0 a1 = some r) :
    Calls Try.prog 58 #[.string a0, .string a1] w fun e w' => e = .returned (.int .i64 r) ∧ Drawn0 w w' := by
  have H : (if (a1.size : Int) = 0 then (none) else (schema_zzCount.l1 k a0 a1 0 0)) = some r := h
  clear h
  by_cases c3 : (a1.size : Int) = 0
  · rw [if_pos c3] at H
    exact absurd H (by simp)
  · rw [if_neg c3] at H
    have c3b0 : ((a1.size : Int) == 0) = false := beq_eq_false_iff_ne.mpr c3
    have c3b1 : ((a1.size : Int) != 0) = true := bne_iff_ne.mpr c3
    have H' := Aside0.mk H
    clear H
    go_enter Try.func58, Try.ntmps58
    go_wp2
    go_loopg [5, 6] k (fun kq v5 v6 w' => ∃ (x5_1 : Int) (x6_1 : Int), v5 = .int .i64 x5_1 ∧ v6 = .int .i64 x6_1 ∧ Aside0 (schema_zzCount.l1 kq a0 a1 x5_1 x6_1 = some r) ∧ Aside0 (kq ≤ k) ∧ Drawn0 w w')
    case atStart => exact ⟨(0), (0), (by first | rfl | (simp; done) | (simp [*]; done)), (by first | rfl | (simp; done) | (simp [*]; done)), H', ⟨Nat.le_refl _⟩, by repeat (first | exact Drawn0.refl _ | apply Drawn0.step)⟩
    case round =>
      clear H'
      try clear p2
      try clear c3
      try clear c3b0
      try clear c3b1
      obtain ⟨x5_1, x6_1, rfl, rfl, HA, HK1, ⟨m1, rfl⟩⟩ := hrel
      cases gk with
      | zero => exact absurd HA.out (by simp [schema_zzCount.l1])
      | succ k1 =>
        have H := HA.out
        clear HA
        simp only [schema_zzCount.l1] at H
        by_cases c4 : (wrap64 (x6_1 + (a1.size : Int))) ≤ (a0.size : Int)
        · rw [if_pos c4] at H
          have c4b0 : decide ((wrap64 (x6_1 + (a1.size : Int))) ≤ (a0.size : Int)) = true := decide_eq_true c4
          clear c4
          by_cases c5 : 0 ≤ x6_1
          · rw [if_pos c5] at H
            have c5b0 := eq_true c5
            have c5b1 : decide (0 ≤ x6_1) = true := decide_eq_true c5
            clear c5
            by_cases c6 : x6_1 ≤ (wrap64 (x6_1 + (a1.size : Int)))
            · rw [if_pos c6] at H
              have c6b0 := eq_true c6
              have c6b1 : decide (x6_1 ≤ (wrap64 (x6_1 + (a1.size : Int)))) = true := decide_eq_true c6
              have c7b0 := eq_true (of_decide_eq_true (by first | (with_reducible assumption) | assumption) : (wrap64 (x6_1 + (a1.size : Int))) ≤ (a0.size : Int))
              by_cases c8 : (a0.extract (x6_1 : Int).toNat ((wrap64 (x6_1 + (a1.size : Int))) : Int).toNat).toList = a1.toList
              · rw [if_pos c8] at H
                have c8b0 : ((a0.extract (x6_1 : Int).toNat ((wrap64 (x6_1 + (a1.size : Int))) : Int).toNat).toList == a1.toList) = true := beq_iff_eq.mpr c8
                have c8b1 : ((a0.extract (x6_1 : Int).toNat ((wrap64 (x6_1 + (a1.size : Int))) : Int).toNat).toList != a1.toList) = false := bne_eq_false_iff_eq.mpr c8
                clear c8
                have H' := Aside0.mk H
                clear H
                go_wp2
                go_roundg k1
                case measure => have := HK1.out; omega
                case rel => exact ⟨(wrap64 (x5_1 + 1)), (wrap64 (x6_1 + (a1.size : Int))), (by first | rfl | (simp; done) | (simp [*]; done)), (by first | rfl | (simp; done) | (simp [*]; done)), H', ⟨by have := HK1.out; omega⟩, by repeat (first | exact Drawn0.refl _ | apply Drawn0.step)⟩
              · rw [if_neg c8] at H
                have c8b0 : ((a0.extract (x6_1 : Int).toNat ((wrap64 (x6_1 + (a1.size : Int))) : Int).toNat).toList == a1.toList) = false := beq_eq_false_iff_ne.mpr c8
                have c8b1 : ((a0.extract (x6_1 : Int).toNat ((wrap64 (x6_1 + (a1.size : Int))) : Int).toNat).toList != a1.toList) = true := bne_iff_ne.mpr c8
                have H' := Aside0.mk H
                clear H
                go_wp2
                go_roundg k1
                case measure => have := HK1.out; omega
                case rel => exact ⟨(x5_1), (wrap64 (x6_1 + 1)), (by first | rfl | (simp; done) | (simp [*]; done)), (by first | rfl | (simp; done) | (simp [*]; done)), H', ⟨by have := HK1.out; omega⟩, by repeat (first | exact Drawn0.refl _ | apply Drawn0.step)⟩
            · rw [if_neg c6] at H
              exact absurd H (by simp)
          · rw [if_neg c5] at H
            exact absurd H (by simp)
        · rw [if_neg c4] at H
          have c4b0 : decide ((wrap64 (x6_1 + (a1.size : Int))) ≤ (a0.size : Int)) = false := decide_eq_false c4
          clear c4
          obtain rfl := Option.some.inj H
          go_wp2
          go_ret
          exact ⟨by first | rfl | (simp; done) | (simp [*]; done), by repeat (first | exact Drawn0.refl _ | apply Drawn0.step)⟩

/-! ### errors_New: function 59 -/
set_option maxHeartbeats 1000000 in
theorem errors_New.calls (s : ByteArray) (w : World) :
    Calls Try.prog 59 #[.string s] w fun e w' => (∃ x, e = .returned (.iface 91 x)) ∧ Below w.heap.size w w' := by
  have hu1 := Try.underlying93
  go_enter Try.func59, Try.ntmps59
  go_wp2_with fail
  go_ret
  exact ⟨⟨_, rfl⟩, by repeat (first | (with_reducible exact Below.refl _ _) | apply below_alloc | apply pw_below_drewN | apply below_drew1)⟩
/-! ### schema_ParseGroupVersion: function 44 -/
def pgv (k : Nat) (s : ByteArray) : Option (ByteArray × ByteArray × Bool) :=
  if s.toList = [] then some (⟨#[]⟩, ⟨#[]⟩, true) else if s.toList = [47] then some (⟨#[]⟩, ⟨#[]⟩, true) else
  (schema_zzCount.f k s ⟨#[47]⟩).bind fun c => if c = 0 then some (⟨#[]⟩, s, true) else if c = 1 then (schema_zzIndex.f k s ⟨#[47]⟩).bind fun i => (if 0 ≤ i ∧ i + 1 ≤ (s.size : Int) ∧ (s.size : Int) ≤ 9223372036854775807 then some (s.extract 0 i.toNat, s.extract (i + 1).toNat s.size, true) else none) else some (⟨#[]⟩, ⟨#[]⟩, false)
theorem pgv_mono (s : ByteArray) (k : Nat) : LeO (pgv k s) (pgv (k + 1) s) := by
  unfold pgv
  refine LeO.ite (LeO.refl _) (LeO.ite (LeO.refl _) (LeO.bind (schema_zzCount.mono _ _ _) fun _ => LeO.ite (LeO.refl _) (LeO.ite (LeO.bind (schema_zzIndex.mono _ _ _) fun _ => LeO.refl _) (LeO.refl _))))
theorem toList_nil_size (s : ByteArray) (h : ¬ s.toList = []) : ¬ s.size = 0 := by
  intro z
  apply h
  unfold ByteArray.toList
  rw [ByteArray.toList.loop, if_neg (by omega)]; rfl
theorem toList_nil_of (s : ByteArray) (h : s.toList = []) : s.size = 0 := by
  have hd : s.toList.length = s.size := by
    have : ∀ n i (r : List UInt8), i + n = s.size → (ByteArray.toList.loop s i r).length = r.length + n := by
      intro n
      induction n with
      | zero => intro i r hi; rw [ByteArray.toList.loop, if_neg (by omega)]; simp
      | succ n ih => intro i r hi; rw [ByteArray.toList.loop, if_pos (by omega), ih (i + 1) _ (by omega)]; simp; omega
    have := this s.size 0 [] (by omega)
    simpa [ByteArray.toList] using this
  rw [h] at hd
  exact hd.symm
set_option maxHeartbeats 1000000 in
theorem pgv_yes (k : Nat) (s g v : ByteArray) (w : World) (h : pgv k s = some (g, v, true)) :
    Calls Try.prog 44 #[.string s] w fun e w' => e = .returned (.tuple #[.agg #[.string g, .string v], .nilIface]) ∧ Below w.heap.size w w' := by
  have hu1 := Try.underlying52
  unfold pgv at h
  by_cases h0 : s.toList = []
  · rw [if_pos h0] at h
    simp only [Option.some.injEq, Prod.mk.injEq, and_true] at h
    obtain ⟨rfl, rfl⟩ := h
    have e0 : ((s.size : Int) == 0) = true := beq_iff_eq.2 (by have := toList_nil_of s h0; omega)
    clear h0
    go_enter Try.func44, Try.ntmps44
    go_wp2_with fail
    exact bodyPost_ret (v := .tuple #[.agg #[.string ⟨#[]⟩, .string ⟨#[]⟩], .nilIface]) (by simp [results, Try.results44, go_sem]) rfl ⟨rfl, (by repeat (first | (with_reducible exact Below.refl _ _) | apply below_alloc | apply pw_below_drewN | apply below_drew1 | refine below_set ?_ (Nat.le_refl _)))⟩
  · rw [if_neg h0] at h
    have e0 : ((s.size : Int) == 0) = false := beq_eq_false_iff_ne.2 (by have := toList_nil_size s h0; omega)
    clear h0
    by_cases h1 : s.toList = [47]
    · rw [if_pos h1] at h
      simp only [Option.some.injEq, Prod.mk.injEq, and_true] at h
      obtain ⟨rfl, rfl⟩ := h
      have e1 : (s.toList == [47]) = true := beq_iff_eq.2 h1
      clear h1
      go_enter Try.func44, Try.ntmps44
      go_wp2_with fail
      exact bodyPost_ret (v := .tuple #[.agg #[.string ⟨#[]⟩, .string ⟨#[]⟩], .nilIface]) (by simp [results, Try.results44, go_sem]) rfl ⟨rfl, (by repeat (first | (with_reducible exact Below.refl _ _) | apply below_alloc | apply pw_below_drewN | apply below_drew1 | refine below_set ?_ (Nat.le_refl _)))⟩
    · rw [if_neg h1] at h
      have e1 : (s.toList == [47]) = false := beq_eq_false_iff_ne.2 h1
      clear h1
      replace h := Option.bind_eq_some_iff.mp h
      obtain ⟨c, hc, h⟩ := h
      have HC := Aside0.mk hc
      clear hc
      by_cases h2 : c = 0
      · rw [if_pos h2] at h
        simp only [Option.some.injEq, Prod.mk.injEq, and_true] at h
        obtain ⟨rfl, rfl⟩ := h
        subst h2
        go_enter Try.func44, Try.ntmps44
        go_wp2_with fail
        refine (schema_zzCount.calls _ _ _ _ _ HC.out).mono ?_
        rintro e w1 ⟨rfl, ⟨m, rfl⟩⟩
        go_wp2_with fail
        exact bodyPost_ret (v := .tuple #[.agg #[.string ⟨#[]⟩, .string s], .nilIface]) (by simp [results, Try.results44, go_sem]) rfl ⟨rfl, (by repeat (first | (with_reducible exact Below.refl _ _) | apply below_alloc | apply pw_below_drewN | apply below_drew1 | refine below_set ?_ (Nat.le_refl _)))⟩
      · rw [if_neg h2] at h
        have e2 : (c == 0) = false := beq_eq_false_iff_ne.2 h2
        clear h2
        by_cases h3 : c = 1
        · rw [if_pos h3] at h
          subst h3
          replace h := Option.bind_eq_some_iff.mp h
          obtain ⟨i, hi, h⟩ := h
          have HI := Aside0.mk hi
          clear hi
          by_cases h4 : 0 ≤ i ∧ i + 1 ≤ (s.size : Int) ∧ (s.size : Int) ≤ 9223372036854775807
          · rw [if_pos h4] at h
            simp only [Option.some.injEq, Prod.mk.injEq, and_true] at h
            obtain ⟨rfl, rfl⟩ := h
            obtain ⟨n, rfl⟩ := Int.eq_ofNat_of_zero_le h4.1
            have b0 : (s.size : Int) ≤ 9223372036854775807 := h4.2.2
            have hw2 : ((n : Int) + 1).toNat = n + 1 := by omega
            rw [Int.toNat_natCast, hw2]
            have b1 : n + 1 ≤ s.size := by omega
            have b2 : n ≤ s.size := by omega
            clear h4 e2
            go_enter Try.func44, Try.ntmps44
            go_wp2_with fail
            refine (schema_zzCount.calls _ _ _ _ _ HC.out).mono ?_
            rintro e w1 ⟨rfl, ⟨m, rfl⟩⟩
            go_wp2_with fail
            refine (schema_zzIndex.calls _ _ _ _ _ HI.out).mono ?_
            rintro e w1 ⟨rfl, ⟨m2, rfl⟩⟩
            go_wp2_with fail
            have hw1 : IntKind.i64.wrap ((n : Int) + 1) = (n : Int) + 1 := IntWalk.i64_in _ (by omega)
            have hw3 : 0 ≤ (n : Int) + 1 := by omega
            have hw4 : (n : Int) + 1 ≤ (s.size : Int) := by omega
            have hw5 : (n : Int) ≤ (s.size : Int) := by omega
            go_region
            all_goals go_wp2_with fail
            all_goals exact bodyPost_ret (v := .tuple #[.agg #[.string (s.extract 0 n), .string (s.extract (n + 1) s.size)], .nilIface]) (by simp [results, Try.results44, go_sem]) rfl ⟨rfl, (by repeat (first | (with_reducible exact Below.refl _ _) | apply below_alloc | apply pw_below_drewN | apply below_drew1 | refine below_set ?_ (Nat.le_refl _)))⟩
          · rw [if_neg h4] at h; simp at h
        · rw [if_neg h3] at h; simp at h
set_option maxHeartbeats 1000000 in
theorem pgv_no (k : Nat) (s g v : ByteArray) (w : World) (h : pgv k s = some (g, v, false)) : g = ⟨#[]⟩ ∧ v = ⟨#[]⟩ ∧
    Calls Try.prog 44 #[.string s] w fun e w' => (∃ x, e = .returned (.tuple #[.agg #[.string ⟨#[]⟩, .string ⟨#[]⟩], .iface 91 x])) ∧ Below w.heap.size w w' := by
  have hu1 := Try.underlying52
  unfold pgv at h
  by_cases h0 : s.toList = []
  · rw [if_pos h0] at h; simp at h
  · rw [if_neg h0] at h
    have e0 : ((s.size : Int) == 0) = false := beq_eq_false_iff_ne.2 (by have := toList_nil_size s h0; omega)
    clear h0
    by_cases h1 : s.toList = [47]
    · rw [if_pos h1] at h; simp at h
    · rw [if_neg h1] at h
      have e1 : (s.toList == [47]) = false := beq_eq_false_iff_ne.2 h1
      clear h1
      replace h := Option.bind_eq_some_iff.mp h
      obtain ⟨c, hc, h⟩ := h
      have HC := Aside0.mk hc
      clear hc
      by_cases h2 : c = 0
      · rw [if_pos h2] at h; simp at h
      · rw [if_neg h2] at h
        by_cases h3 : c = 1
        · rw [if_pos h3] at h
          exfalso
          replace h := Option.bind_eq_some_iff.mp h
          obtain ⟨i, _, h⟩ := h
          split at h <;> simp at h
        · rw [if_neg h3] at h
          simp only [Option.some.injEq, Prod.mk.injEq, and_true] at h
          obtain ⟨rfl, rfl⟩ := h
          refine ⟨rfl, rfl, ?_⟩
          have e2 : (c == 0) = false := beq_eq_false_iff_ne.2 h2
          have e3 : (c == 1) = false := beq_eq_false_iff_ne.2 h3
          clear h2 h3
          go_enter Try.func44, Try.ntmps44
          go_wp2_with fail
          refine (schema_zzCount.calls _ _ _ _ _ HC.out).mono ?_
          rintro e w1 ⟨rfl, ⟨m, rfl⟩⟩
          go_wp2_with fail
          refine (errors_New.calls _ _).mono ?_
          rintro e w2 ⟨⟨x, rfl⟩, hb⟩
          have B2 : Aside0 (Below w.heap.size w w2) := ⟨below_step (by repeat (first | (with_reducible exact Below.refl _ _) | apply below_alloc | apply pw_below_drewN | apply below_drew1)) hb⟩
          have hR := blk_below (blk_drewN (blk_new w (.cells #[.string ⟨#[]⟩, .string ⟨#[]⟩] 52)) m) hb
          have c0 : w2.cell? ⟨w.heap.size, 0, none⟩ = some (.string ⟨#[]⟩) := blk_cell hR 0
          have c1 : w2.cell? ⟨w.heap.size, 1, none⟩ = some (.string ⟨#[]⟩) := blk_cell hR 1
          have f0 : w2.frozen? ⟨w.heap.size, 0, none⟩ = false := blk_frozen hR 0
          have f1 : w2.frozen? ⟨w.heap.size, 1, none⟩ = false := blk_frozen hR 1
          clear hb hR
          go_wp2_with fail
          exact bodyPost_ret (v := .tuple #[.agg #[.string ⟨#[]⟩, .string ⟨#[]⟩], .iface 91 x]) (by simp [results, Try.results44, go_sem, c0, c1]) rfl ⟨⟨x, rfl⟩, below_set (below_set B2.out (Nat.le_refl _)) (Nat.le_refl _)⟩
/-! ### impl_GroupVersionParse: function 23 -/
def impl_GroupVersionParse.f (k : Nat) (a0 : ByteArray) : Option (ByteArray × ByteArray × ByteArray × Bool) := (pgv k a0).bind fun t => some (t.1, t.2.1, ⟨#[]⟩, t.2.2)
theorem impl_GroupVersionParse.mono : ∀ a0 k, LeO (impl_GroupVersionParse.f k a0) (impl_GroupVersionParse.f (k + 1) a0) := by
  intro a0 k
  unfold impl_GroupVersionParse.f
  exact LeO.bind (pgv_mono _ _) (fun _ => LeO.refl _)
set_option maxHeartbeats 1000000 in
theorem impl_GroupVersionParse.calls (k : Nat) (a0 : ByteArray) (r1 : ByteArray) (r2 : ByteArray) (r3 : ByteArray) (r4 : Bool) (w : World) (h : impl_GroupVersionParse.f k a0 = some (r1, r2, r3, r4)) :
    Calls Try.prog 23 #[.string a0] w fun e w' => e = .returned (.tuple #[.agg #[.string r1, .string r2, .string r3], .bool r4]) ∧ Below w.heap.size w w' := by
  have hu1 := Try.underlying52
  have hu2 := Try.underlying25
  unfold impl_GroupVersionParse.f at h
  replace h := Option.bind_eq_some_iff.mp h
  obtain ⟨⟨g, v, b⟩, hp, h⟩ := h
  simp only [Option.some.injEq, Prod.mk.injEq] at h
  obtain ⟨rfl, rfl, rfl, rfl⟩ := h
  cases b with
  | true =>
    have HC := Aside0.mk (pgv_yes k a0 g v · hp)
    clear hp
    go_enter Try.func23, Try.ntmps23
    go_wp2_with fail
    refine (HC.out _).mono ?_
    rintro e w1 ⟨rfl, hb1⟩
    have B1 : Aside0 (Below w.heap.size w w1) := ⟨below_step (below_alloc (Below.refl _ _) _) hb1⟩
    have hR : Aside0 (w1.heap[w.heap.size]? = some (.cells #[.string ⟨#[]⟩, .string ⟨#[]⟩, .string ⟨#[]⟩] 25 (0, 0))) := ⟨blk_below (blk_new w _) hb1⟩
    have hz1 : w.heap.size < w1.heap.size := by have := hb1.size; simp at this; omega
    have c0 : w1.cell? ⟨w.heap.size, 0, none⟩ = some (.string ⟨#[]⟩) := blk_cell hR.out 0
    have c1 : w1.cell? ⟨w.heap.size, 1, none⟩ = some (.string ⟨#[]⟩) := blk_cell hR.out 1
    have c2 : w1.cell? ⟨w.heap.size, 2, none⟩ = some (.string ⟨#[]⟩) := blk_cell hR.out 2
    have f0 : w1.frozen? ⟨w.heap.size, 0, none⟩ = false := blk_frozen hR.out 0
    have f1 : w1.frozen? ⟨w.heap.size, 1, none⟩ = false := blk_frozen hR.out 1
    have f2 : w1.frozen? ⟨w.heap.size, 2, none⟩ = false := blk_frozen hR.out 2
    clear hb1 HC hR
    go_wp2_with fail
    go_region
    all_goals go_wp2_with fail
    all_goals exact bodyPost_ret (v := .tuple #[.agg #[.string g, .string v, .string ⟨#[]⟩], .bool true]) (by simp [results, Try.results23, go_sem, c0, c1, c2, f0, f1, f2, hz1]) rfl ⟨rfl, (by repeat (first | (with_reducible exact B1.out) | apply below_alloc | apply pw_below_drewN | apply below_drew1 | refine below_set ?_ (Nat.le_refl _)))⟩
  | false =>
    obtain ⟨rfl, rfl, _⟩ := pgv_no k a0 g v w hp
    have HC := Aside0.mk (fun w => (pgv_no k a0 _ _ w hp).2.2)
    clear hp
    go_enter Try.func23, Try.ntmps23
    go_wp2_with fail
    refine (HC.out _).mono ?_
    rintro e w1 ⟨⟨x, rfl⟩, hb1⟩
    have B1 : Aside0 (Below w.heap.size w w1) := ⟨below_step (below_alloc (Below.refl _ _) _) hb1⟩
    have hR : Aside0 (w1.heap[w.heap.size]? = some (.cells #[.string ⟨#[]⟩, .string ⟨#[]⟩, .string ⟨#[]⟩] 25 (0, 0))) := ⟨blk_below (blk_new w _) hb1⟩
    have hz1 : w.heap.size < w1.heap.size := by have := hb1.size; simp at this; omega
    have c0 : w1.cell? ⟨w.heap.size, 0, none⟩ = some (.string ⟨#[]⟩) := blk_cell hR.out 0
    have c1 : w1.cell? ⟨w.heap.size, 1, none⟩ = some (.string ⟨#[]⟩) := blk_cell hR.out 1
    have c2 : w1.cell? ⟨w.heap.size, 2, none⟩ = some (.string ⟨#[]⟩) := blk_cell hR.out 2
    have f0 : w1.frozen? ⟨w.heap.size, 0, none⟩ = false := blk_frozen hR.out 0
    have f1 : w1.frozen? ⟨w.heap.size, 1, none⟩ = false := blk_frozen hR.out 1
    have f2 : w1.frozen? ⟨w.heap.size, 2, none⟩ = false := blk_frozen hR.out 2
    clear hb1 HC hR
    go_wp2_with fail
    go_region
    all_goals go_wp2_with fail
    all_goals exact bodyPost_ret (v := .tuple #[.agg #[.string ⟨#[]⟩, .string ⟨#[]⟩, .string ⟨#[]⟩], .bool false]) (by simp [results, Try.results23, go_sem, c0, c1, c2, f0, f1, f2, hz1]) rfl ⟨rfl, (by repeat (first | (with_reducible exact B1.out) | apply below_alloc | apply pw_below_drewN | apply below_drew1 | refine below_set ?_ (Nat.le_refl _)))⟩
/-! ### spec_verPlace: function 38 -/
def spec_verPlace.l0 : Nat → ByteArray → Int → Int → Option (Int)
  | 0, _, _, _ => none
  | k + 1, x0, x1, x5 => if x5 < (x0.size : Int) then (if 0 ≤ x5 then (if (bt x0 x5) = x1 then (some x5) else (spec_verPlace.l0 k x0 x1 (wrap64 (x5 + 1)))) else (none)) else (some (-1))
def spec_verPlace.f (k : Nat) (a0 : ByteArray) (a1 : Int) : Option (Int) := spec_verPlace.l0 k a0 a1 0
theorem spec_verPlace.mono_l : ∀ k, (∀ y0 y1 y2, LeO (spec_verPlace.l0 k y0 y1 y2) (spec_verPlace.l0 (k + 1) y0 y1 y2))
  | 0 => fun _ _ _ r h => by simp [spec_verPlace.l0] at h
  | k + 1 => by
    have ih0 := spec_verPlace.mono_l k
    · intro y0 y1 y2
      unfold spec_verPlace.l0
      repeat' first
      | (with_reducible exact ih0 _ _ _)
      | (with_reducible exact LeO.refl _)
      | (with_reducible exact LeO.none _)
      | (with_reducible refine LeO.ite ?_ ?_)
      | (with_reducible refine LeO.bind ?_ (fun _ => ?_))
      | exact ih0 _ _ _
      | exact LeO.none _
      | refine LeO.ite ?_ ?_
      | refine LeO.bind ?_ (fun _ => ?_)
theorem spec_verPlace.mono : ∀ a0 a1 k, LeO (spec_verPlace.f k a0 a1) (spec_verPlace.f (k + 1) a0 a1) := by
  intro a0 a1 k
  have ih0 := spec_verPlace.mono_l k
  unfold spec_verPlace.f
  repeat' first
      | (with_reducible exact ih0 _ _ _)
      | (with_reducible exact LeO.refl _)
      | (with_reducible exact LeO.none _)
      | (with_reducible refine LeO.ite ?_ ?_)
      | (with_reducible refine LeO.bind ?_ (fun _ => ?_))
      | exact ih0 _ _ _
      | exact LeO.none _
      | refine LeO.ite ?_ ?_
      | refine LeO.bind ?_ (fun _ => ?_)
set_option maxHeartbeats 8000000 in
set_option maxRecDepth 100000 in
theorem spec_verPlace.calls (k : Nat) (a0 : ByteArray) (a1 : Int) (r : Int) (w : World) (h : spec_verPlace.f k a0 a1 = some r) :
    Calls Try.prog 38 #[.string a0, .int .u8 a1] w fun e w' => e = .returned (.int .i64 r) ∧ Drawn0 w w' := by
  have H : (spec_verPlace.l0 k a0 a1 0) = some r := h
  clear h
  have H' := Aside0.mk H
  clear H
  go_enter Try.func38, Try.ntmps38
  go_wp2
  go_loopg [5] k (fun kq v5 w' => ∃ (x5_1 : Int), v5 = .int .i64 x5_1 ∧ Aside0 (spec_verPlace.l0 kq a0 a1 x5_1 = some r) ∧ Aside0 (kq ≤ k) ∧ Drawn0 w w')
  case atStart => exact ⟨(0), (by first | rfl | (simp; done) | (simp [*]; done)), H', ⟨Nat.le_refl _⟩, by repeat (first | exact Drawn0.refl _ | apply Drawn0.step)⟩
  case round =>
    clear H'
    try clear p2
    obtain ⟨x5_1, rfl, HA, HK1, ⟨m1, rfl⟩⟩ := hrel
    cases gk with
    | zero => exact absurd HA.out (by simp [spec_verPlace.l0])
    | succ k1 =>
      have H := HA.out
      clear HA
      simp only [spec_verPlace.l0] at H
      by_cases c3 : x5_1 < (a0.size : Int)
      · rw [if_pos c3] at H
        have c3b0 : decide (x5_1 < (a0.size : Int)) = true := decide_eq_true c3
        clear c3
        by_cases c4 : 0 ≤ x5_1
        · rw [if_pos c4] at H
          have c4b0 : decide (0 ≤ x5_1) = true := decide_eq_true c4
          clear c4
          by_cases c6 : (bt a0 x5_1) = a1
          · rw [if_pos c6] at H
            have c6b0 : ((bt a0 x5_1) == a1) = true := beq_iff_eq.mpr c6
            have c6b1 : ((bt a0 x5_1) != a1) = false := bne_eq_false_iff_eq.mpr c6
            clear c6
            obtain rfl := Option.some.inj H
            have p5 : 0 ≤ (x5_1 : Int) := of_decide_eq_true (by first | (with_reducible assumption) | assumption)
            have q5 : x5_1 < (a0.size : Int) := of_decide_eq_true (by first | (with_reducible assumption) | assumption)
            have hx5 := bt_at a0 x5_1
            replace p5 := eq_true p5
            replace q5 := eq_true q5
            go_wp2
            go_ret
            exact ⟨by first | rfl | (simp; done) | (simp [*]; done), by repeat (first | exact Drawn0.refl _ | apply Drawn0.step)⟩
          · rw [if_neg c6] at H
            have c6b0 : ((bt a0 x5_1) == a1) = false := beq_eq_false_iff_ne.mpr c6
            have c6b1 : ((bt a0 x5_1) != a1) = true := bne_iff_ne.mpr c6
            have H' := Aside0.mk H
            clear H
            have p5 : 0 ≤ (x5_1 : Int) := of_decide_eq_true (by first | (with_reducible assumption) | assumption)
            have q5 : x5_1 < (a0.size : Int) := of_decide_eq_true (by first | (with_reducible assumption) | assumption)
            have hx5 := bt_at a0 x5_1
            replace p5 := eq_true p5
            replace q5 := eq_true q5
            go_wp2
            go_roundg k1
            case measure => have := HK1.out; omega
            case rel => exact ⟨(wrap64 (x5_1 + 1)), (by first | rfl | (simp; done) | (simp [*]; done)), H', ⟨by have := HK1.out; omega⟩, by repeat (first | exact Drawn0.refl _ | apply Drawn0.step)⟩
        · rw [if_neg c4] at H
          exact absurd H (by simp)
      · rw [if_neg c3] at H
        have c3b0 : decide (x5_1 < (a0.size : Int)) = false := decide_eq_false c3
        clear c3
        obtain rfl := Option.some.inj H
        go_wp2
        go_ret
        exact ⟨by first | rfl | (simp; done) | (simp [*]; done), by repeat (first | exact Drawn0.refl _ | apply Drawn0.step)⟩

/-! ### spec_verOften: function 45 -/
def spec_verOften.l0 : Nat → ByteArray → Int → Int → Int → Option (Int)
  | 0, _, _, _, _ => none
  | k + 1, x0, x1, x5, x6 => if x6 < (x0.size : Int) then (if 0 ≤ x6 then (if (bt x0 x6) = x1 then (spec_verOften.l0 k x0 x1 (wrap64 (x5 + 1)) (wrap64 (x6 + 1))) else (spec_verOften.l0 k x0 x1 x5 (wrap64 (x6 + 1)))) else (none)) else (some x5)
def spec_verOften.f (k : Nat) (a0 : ByteArray) (a1 : Int) : Option (Int) := spec_verOften.l0 k a0 a1 0 0
theorem spec_verOften.mono_l : ∀ k, (∀ y0 y1 y2 y3, LeO (spec_verOften.l0 k y0 y1 y2 y3) (spec_verOften.l0 (k + 1) y0 y1 y2 y3))
  | 0 => fun _ _ _ _ r h => by simp [spec_verOften.l0] at h
  | k + 1 => by
    have ih0 := spec_verOften.mono_l k
    · intro y0 y1 y2 y3
      unfold spec_verOften.l0
      repeat' first
      | (with_reducible exact ih0 _ _ _ _)
      | (with_reducible exact LeO.refl _)
      | (with_reducible exact LeO.none _)
      | (with_reducible refine LeO.ite ?_ ?_)
      | (with_reducible refine LeO.bind ?_ (fun _ => ?_))
      | exact ih0 _ _ _ _
      | exact LeO.none _
      | refine LeO.ite ?_ ?_
      | refine LeO.bind ?_ (fun _ => ?_)
theorem spec_verOften.mono : ∀ a0 a1 k, LeO (spec_verOften.f k a0 a1) (spec_verOften.f (k + 1) a0 a1) := by
  intro a0 a1 k
  have ih0 := spec_verOften.mono_l k
  unfold spec_verOften.f
  repeat' first
      | (with_reducible exact ih0 _ _ _ _)
      | (with_reducible exact LeO.refl _)
      | (with_reducible exact LeO.none _)
      | (with_reducible refine LeO.ite ?_ ?_)
      | (with_reducible refine LeO.bind ?_ (fun _ => ?_))
      | exact ih0 _ _ _ _
      | exact LeO.none _
      | refine LeO.ite ?_ ?_
      | refine LeO.bind ?_ (fun _ => ?_)
set_option maxHeartbeats 8000000 in
set_option maxRecDepth 100000 in
theorem spec_verOften.calls (k : Nat) (a0 : ByteArray) (a1 : Int) (r : Int) (w : World) (h : spec_verOften.f k a0 a1 = some r) :
    Calls Try.prog 45 #[.string a0, .int .u8 a1] w fun e w' => e = .returned (.int .i64 r) ∧ Drawn0 w w' := by
  have H : (spec_verOften.l0 k a0 a1 0 0) = some r := h
  clear h
  have H' := Aside0.mk H
  clear H
  go_enter Try.func45, Try.ntmps45
  go_wp2
  go_loopg [5, 6] k (fun kq v5 v6 w' => ∃ (x5_1 : Int) (x6_1 : Int), v5 = .int .i64 x5_1 ∧ v6 = .int .i64 x6_1 ∧ Aside0 (spec_verOften.l0 kq a0 a1 x5_1 x6_1 = some r) ∧ Aside0 (kq ≤ k) ∧ Drawn0 w w')
  case atStart => exact ⟨(0), (0), (by first | rfl | (simp; done) | (simp [*]; done)), (by first | rfl | (simp; done) | (simp [*]; done)), H', ⟨Nat.le_refl _⟩, by repeat (first | exact Drawn0.refl _ | apply Drawn0.step)⟩
  case round =>
    clear H'
    try clear p2
    obtain ⟨x5_1, x6_1, rfl, rfl, HA, HK1, ⟨m1, rfl⟩⟩ := hrel
    cases gk with
    | zero => exact absurd HA.out (by simp [spec_verOften.l0])
    | succ k1 =>
      have H := HA.out
      clear HA
      simp only [spec_verOften.l0] at H
      by_cases c3 : x6_1 < (a0.size : Int)
      · rw [if_pos c3] at H
        have c3b0 : decide (x6_1 < (a0.size : Int)) = true := decide_eq_true c3
        clear c3
        by_cases c4 : 0 ≤ x6_1
        · rw [if_pos c4] at H
          have c4b0 : decide (0 ≤ x6_1) = true := decide_eq_true c4
          clear c4
          by_cases c6 : (bt a0 x6_1) = a1
          · rw [if_pos c6] at H
            have c6b0 : ((bt a0 x6_1) == a1) = true := beq_iff_eq.mpr c6
            have c6b1 : ((bt a0 x6_1) != a1) = false := bne_eq_false_iff_eq.mpr c6
            clear c6
            have H' := Aside0.mk H
            clear H
            have p5 : 0 ≤ (x6_1 : Int) := of_decide_eq_true (by first | (with_reducible assumption) | assumption)
            have q5 : x6_1 < (a0.size : Int) := of_decide_eq_true (by first | (with_reducible assumption) | assumption)
            have hx5 := bt_at a0 x6_1
            replace p5 := eq_true p5
            replace q5 := eq_true q5
            go_wp2
            go_roundg k1
            case measure => have := HK1.out; omega
            case rel => exact ⟨(wrap64 (x5_1 + 1)), (wrap64 (x6_1 + 1)), (by first | rfl | (simp; done) | (simp [*]; done)), (by first | rfl | (simp; done) | (simp [*]; done)), H', ⟨by have := HK1.out; omega⟩, by repeat (first | exact Drawn0.refl _ | apply Drawn0.step)⟩
          · rw [if_neg c6] at H
            have c6b0 : ((bt a0 x6_1) == a1) = false := beq_eq_false_iff_ne.mpr c6
            have c6b1 : ((bt a0 x6_1) != a1) = true := bne_iff_ne.mpr c6
            have H' := Aside0.mk H
            clear H
            have p5 : 0 ≤ (x6_1 : Int) := of_decide_eq_true (by first | (with_reducible assumption) | assumption)
            have q5 : x6_1 < (a0.size : Int) := of_decide_eq_true (by first | (with_reducible assumption) | assumption)
            have hx5 := bt_at a0 x6_1
            replace p5 := eq_true p5
            replace q5 := eq_true q5
            go_wp2
            go_roundg k1
            case measure => have := HK1.out; omega
            case rel => exact ⟨(x5_1), (wrap64 (x6_1 + 1)), (by first | rfl | (simp; done) | (simp [*]; done)), (by first | rfl | (simp; done) | (simp [*]; done)), H', ⟨by have := HK1.out; omega⟩, by repeat (first | exact Drawn0.refl _ | apply Drawn0.step)⟩
        · rw [if_neg c4] at H
          exact absurd H (by simp)
      · rw [if_neg c3] at H
        have c3b0 : decide (x6_1 < (a0.size : Int)) = false := decide_eq_false c3
        clear c3
        obtain rfl := Option.some.inj H
        go_wp2
        go_ret
        exact ⟨by first | rfl | (simp; done) | (simp [*]; done), by repeat (first | exact Drawn0.refl _ | apply Drawn0.step)⟩

end Go.Proofs.Ytpaihcikeieliaa.PFnGroupVersion
