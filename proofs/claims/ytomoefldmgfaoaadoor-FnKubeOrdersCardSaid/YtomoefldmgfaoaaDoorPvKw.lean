/- Versions of kinds: the walks. -/
import Derived.Test.YtomoefldmgfaoaaDoorPvKk
import Derived.Test.YtomoefldmgfaoaaDoorPvP
import Derived.Test.YtomoefldmgfaoaaDoorPvQ
set_option linter.unusedVariables false
set_option linter.unusedSimpArgs false
namespace Go.Proofs.YtomoefldmgfaoaaDoor.Pv
open Go Go.RowKit Go.Proofs.YtomoefldmgfaoaaDoor Go.Proofs.YtomoefldmgfaoaaDoorW.PrintWords Go.Proofs.YtomoefldmgfaoaaDoor.PvHk Go.Proofs.YtomoefldmgfaoaaDoor.Txt Go.Proofs.YtomoefldmgfaoaaDoor.Small

/-- The number of digits. -/
def val (l : Bs) : Nat := valFrom 0 l
theorem val_lt {l : Bs} (h : numeric l = true ∨ l = []) (hl : l.length ≤ 18) : val l < 1000000000000000000 := by
  have hd : ∀ c ∈ l, dg c = true := by
    rcases h with h | h
    · simp only [numeric, Bool.and_eq_true, bne_iff_ne, List.all_eq_true] at h; exact h.2
    · rw [h]; intro c hc; cases hc
  have hv := valFrom_lt l 0 0 hd (by decide)
  have : 10 ^ (0 + l.length) ≤ 10 ^ 18 := Nat.pow_le_pow_right (by decide) (by omega)
  have e : (10 : Nat) ^ 18 = 1000000000000000000 := by decide
  unfold val
  omega
theorem atoi_digits {l : Bs} (h : numeric l = true) (hl : l.length ≤ 18) : Lib.atoiAll l = .ok (val l : Int) := by
  have hv := val_lt (Or.inl h) hl
  have hn := numeric_vn h (by unfold val at hv; omega)
  have hp : Lib.parseMag l = .ok (val l) := by
    unfold vn at hn
    split at hn
    · rename_i u hu
      injection hn with hn
      rw [hu, hn]; rfl
    · cases hn
  cases l with
  | nil => cases h
  | cons c r =>
    have hc : dg c = true := by
      simp only [numeric, Bool.and_eq_true, bne_iff_ne, List.all_eq_true] at h; exact h.2 c (by simp)
    have hc' := (dg_iff c).1 hc
    unfold Lib.atoiAll
    simp only
    rw [if_neg (show ¬ (c.toNat = 43 ∨ c.toNat = 45) by omega), hp]
    simp only
    rw [if_neg (by omega), if_neg (by omega), if_neg (by omega)]
theorem atoi_calls (l : Bs) (h : numeric l = true) (hl : l.length ≤ 18) (w : World) :
    Calls Tryd.prog 89 #[.string (mk l)] w fun e w' => e = .returned (.tuple #[.int .i64 (val l : Int), .nilIface]) ∧ Below w.heap.size w w' :=
  (Tryd.strconv_Atoi_ok (mk l) (by rw [size_mk]; omega) _ (atoi_digits h hl) w).mono fun e w' ⟨h1, h2⟩ => ⟨h1, by
    rcases h2 with rfl | ⟨t, rfl⟩
    · exact Below.refl _ _
    · exact Lib.bytesWorld_below _ _ _⟩
theorem res4 {fn : Func} {t u v x : Tmp} (h : fn.results = #[.tmp t, .tmp u, .tmp v, .tmp x]) (tmps : Array Value) (P : Program) (w : World) :
    (results fn tmps).run P w = .ok (.tuple #[tmps.getD t undef, tmps.getD u undef, tmps.getD v undef, tmps.getD x undef]) w := by
  simp [results, h]
/-- What is asked of. -/
def KAsk (l : Bs) : Prop := ∀ q, kube l = some q → q.2.1.length ≤ 18 ∧ q.2.2.length ≤ 18
def kubeV (l : Bs) : Value := match kube l with
  | none => .tuple #[.int .i64 0, .int .i64 0, .int .i64 0, .bool false]
  | some q => .tuple #[.int .i64 (val q.2.1 : Int), .int .i64 (q.1 : Int), .int .i64 (val q.2.2 : Int), .bool true]
set_option maxHeartbeats 6400000 in
set_option maxRecDepth 100000 in
theorem pk_calls (s : ByteArray) (hs : s.size ≤ 1099511627776) (ha : KAsk (Lb s)) (w : World) :
    Calls Tryd.prog 78 #[.string s] w fun e w' => e = .returned (kubeV (Lb s)) ∧ Below w.heap.size w w' := by
  have hfit : Fit s := by unfold Fit; omega
  obtain ⟨kk, hk⟩ := (kube_ev hfit).rounds
  have HK := Aside0.mk (fun w => version_zzKube.calls kk s (kubeL s) w hk)
  unfold kubeV
  cases hq : kube (Lb s) with
  | none =>
    have HL : Aside0 (kubeL s = []) := ⟨by unfold kubeL; rw [hq]; rfl⟩
    clear hk hfit hs ha hq
    go_enter Tryd.func78, Tryd.ntmps78
    go_wp2_with (go_at_call 88; (with_reducible refine (HK.out _).mono ?_); rintro e w1 ⟨v0, rfl, hr, hb⟩; rw [HL.out] at hr; obtain ⟨A, c, ec⟩ := Kd.R_slice hr; subst ec; have B1 := Aside0.mk hb; clear hr hb)
    refine bodyPost_ret (res4 rfl _ _ _) rfl ⟨rfl, B1.out⟩
  | some q =>
    obtain ⟨lv, d, m⟩ := q
    obtain ⟨k1, k2, k3, k4, -, -⟩ := kube_some hq
    obtain ⟨a1, a2⟩ := ha _ hq
    have HA1 := Aside0.mk (fun w => atoi_calls d k2 a1 w)
    have hlv : lv = 0 ∨ lv = 1 ∨ lv = 2 := by have : lv ≤ 2 := k1; omega
    clear hk hfit hs ha
    rcases hlv with rfl | rfl | rfl
    · have HA2 := Aside0.mk (fun w => atoi_calls m (k4 (by show (0 : Nat) ≠ 2; omega)) a2 w)
      clear k1 k2 k3 k4 a1 a2
      have HL : Aside0 (kubeL s = [s, mk d, (⟨#[97, 108, 112, 104, 97]⟩ : ByteArray), mk m]) := ⟨by unfold kubeL; rw [hq]; rfl⟩
      clear hq
      go_enter Tryd.func78, Tryd.ntmps78
      go_wp2_with (first
      | (go_at_call 88; (with_reducible refine (HK.out _).mono ?_); rintro e w1 ⟨v0, rfl, hr, hb⟩; rw [HL.out] at hr; obtain ⟨b0, cap0, n0, rfl, hn0, hrow, -, hlt0⟩ := row_of hr (by simp); obtain rfl : n0 = 4 := hn0; have d1 : w1.cell? ⟨b0, 1, none⟩ = some (.string (mk d)) := hrow 1 (by simp); have d2 : w1.cell? ⟨b0, 2, none⟩ = some (.string (⟨#[97, 108, 112, 104, 97]⟩ : ByteArray)) := hrow 2 (by simp); have d3 : w1.cell? ⟨b0, 3, none⟩ = some (.string (mk m)) := hrow 3 (by simp); have B1 := Aside0.mk hb; clear hr hb hrow)
      | (go_at_call 89; (with_reducible refine (HA1.out _).mono ?_); rintro e w2 ⟨rfl, hb⟩; have B2 := Aside0.mk (below_step B1.out hb); have d3 : w2.cell? ⟨b0, 3, none⟩ = some (.string (mk m)) := pw_cell_below hb d3; clear hb)
      | (go_at_call 89; (with_reducible refine (HA2.out _).mono ?_); rintro e w3 ⟨rfl, hb⟩; have B3 := Aside0.mk (below_step B2.out hb); clear hb))
      refine bodyPost_ret (res4 rfl _ _ _) rfl ⟨?_, B3.out⟩
      rfl
    · have HA2 := Aside0.mk (fun w => atoi_calls m (k4 (by show (1 : Nat) ≠ 2; omega)) a2 w)
      clear k1 k2 k3 k4 a1 a2
      have HL : Aside0 (kubeL s = [s, mk d, (⟨#[98, 101, 116, 97]⟩ : ByteArray), mk m]) := ⟨by unfold kubeL; rw [hq]; rfl⟩
      clear hq
      go_enter Tryd.func78, Tryd.ntmps78
      go_wp2_with (first
      | (go_at_call 88; (with_reducible refine (HK.out _).mono ?_); rintro e w1 ⟨v0, rfl, hr, hb⟩; rw [HL.out] at hr; obtain ⟨b0, cap0, n0, rfl, hn0, hrow, -, hlt0⟩ := row_of hr (by simp); obtain rfl : n0 = 4 := hn0; have d1 : w1.cell? ⟨b0, 1, none⟩ = some (.string (mk d)) := hrow 1 (by simp); have d2 : w1.cell? ⟨b0, 2, none⟩ = some (.string (⟨#[98, 101, 116, 97]⟩ : ByteArray)) := hrow 2 (by simp); have d3 : w1.cell? ⟨b0, 3, none⟩ = some (.string (mk m)) := hrow 3 (by simp); have B1 := Aside0.mk hb; clear hr hb hrow)
      | (go_at_call 89; (with_reducible refine (HA1.out _).mono ?_); rintro e w2 ⟨rfl, hb⟩; have B2 := Aside0.mk (below_step B1.out hb); have d3 : w2.cell? ⟨b0, 3, none⟩ = some (.string (mk m)) := pw_cell_below hb d3; clear hb)
      | (go_at_call 89; (with_reducible refine (HA2.out _).mono ?_); rintro e w3 ⟨rfl, hb⟩; have B3 := Aside0.mk (below_step B2.out hb); clear hb))
      refine bodyPost_ret (res4 rfl _ _ _) rfl ⟨?_, B3.out⟩
      rfl
    · obtain rfl : m = [] := k3 rfl
      clear k1 k2 k3 k4 a1 a2
      have HL : Aside0 (kubeL s = [s, mk d, (⟨#[]⟩ : ByteArray), mk []]) := ⟨by unfold kubeL; rw [hq]; rfl⟩
      clear hq
      go_enter Tryd.func78, Tryd.ntmps78
      go_wp2_with (first
      | (go_at_call 88; (with_reducible refine (HK.out _).mono ?_); rintro e w1 ⟨v0, rfl, hr, hb⟩; rw [HL.out] at hr; obtain ⟨b0, cap0, n0, rfl, hn0, hrow, -, hlt0⟩ := row_of hr (by simp); obtain rfl : n0 = 4 := hn0; have d1 : w1.cell? ⟨b0, 1, none⟩ = some (.string (mk d)) := hrow 1 (by simp); have d2 : w1.cell? ⟨b0, 2, none⟩ = some (.string (⟨#[]⟩ : ByteArray)) := hrow 2 (by simp); have d3 : w1.cell? ⟨b0, 3, none⟩ = some (.string (mk [])) := hrow 3 (by simp); have B1 := Aside0.mk hb; clear hr hb hrow)
      | (go_at_call 89; (with_reducible refine (HA1.out _).mono ?_); rintro e w2 ⟨rfl, hb⟩; have B2 := Aside0.mk (below_step B1.out hb); have d3 : w2.cell? ⟨b0, 3, none⟩ = some (.string (mk [])) := pw_cell_below hb d3; clear hb))
      refine bodyPost_ret (res4 rfl _ _ _) rfl ⟨?_, B2.out⟩
      rfl
/-- The order of two versions of kinds. -/
def kcmp (a b : Bs) : Int :=
  if a = b then 0 else match kube a, kube b with
  | none, none => Lib.compareBytes b a
  | none, some _ => -1
  | some _, none => 1
  | some x, some y => if x.1 ≠ y.1 then (x.1 : Int) - (y.1 : Int) else if val x.2.1 ≠ val y.2.1 then (val x.2.1 : Int) - (val y.2.1 : Int) else (val x.2.2 : Int) - (val y.2.2 : Int)
theorem mk_ne {a b : ByteArray} (h : a ≠ b) : Lb a ≠ Lb b := fun e => h (ext e)
set_option maxHeartbeats 6400000 in
set_option maxRecDepth 100000 in
theorem ck_calls (a b : ByteArray) (ha : a.size ≤ 1099511627776) (hb : b.size ≤ 1099511627776) (ka : KAsk (Lb a)) (kb : KAsk (Lb b)) (w : World) :
    Calls Tryd.prog 57 #[.string a, .string b] w fun e w' => e = .returned (.int .i64 (kcmp (Lb a) (Lb b))) ∧ Below w.heap.size w w' := by
  have HA := Aside0.mk (fun w => pk_calls a ha ka w)
  have HB := Aside0.mk (fun w => pk_calls b hb kb w)
  clear ha hb
  by_cases hab : a = b
  · subst hab
    have hk : kcmp (Lb a) (Lb a) = 0 := if_pos rfl
    rw [hk]
    clear HA HB ka kb hk
    go_enter Tryd.func57, Tryd.ntmps57
    go_wp2
    go_ret
    exact ⟨rfl, Below.refl _ _⟩
  · have hl : (Lb a = Lb b) = False := eq_false (mk_ne hab)
    have e1 : (Lb a == Lb b) = false := beq_eq_false_iff_ne.2 (mk_ne hab)
    have e2 : (a = b) = False := eq_false hab
    have e4 : (a.toList == b.toList) = false := by rw [toL, toL]; exact e1
    have e5 : (a.toList = b.toList) = False := by rw [toL, toL]; exact hl
    cases hx : kube (Lb a) with
    | none =>
      have ex : Aside0 (kubeV (Lb a) = .tuple #[.int .i64 0, .int .i64 0, .int .i64 0, .bool false]) := ⟨by unfold kubeV; rw [hx]⟩
      cases hy : kube (Lb b) with
      | none =>
        have ey : Aside0 (kubeV (Lb b) = .tuple #[.int .i64 0, .int .i64 0, .int .i64 0, .bool false]) := ⟨by unfold kubeV; rw [hy]⟩
        have hk : Aside0 (kcmp (Lb a) (Lb b) = Lib.compareBytes (Lb b) (Lb a)) := ⟨by unfold kcmp; rw [if_neg (mk_ne hab), hx, hy]⟩
        clear hx hy ka kb hab
        go_enter Tryd.func57, Tryd.ntmps57
        go_wp2_with (first
          | (go_at_call 78; (with_reducible refine (HA.out _).mono ?_); rintro e w1 ⟨he, hb⟩; rw [ex.out] at he; subst he; have B1 := Aside0.mk hb; clear hb)
          | (go_at_call 78; (with_reducible refine (HB.out _).mono ?_); rintro e w2 ⟨he, hb⟩; rw [ey.out] at he; subst he; have B2 := Aside0.mk (below_step B1.out hb); clear hb)
          | (go_at_call 79; (with_reducible refine (Tryd.strings_Compare b a _).mono ?_); rintro e w3 ⟨rfl, rfl⟩))
        go_ret
        exact ⟨by rw [hk.out]; rfl, B2.out⟩
      | some y =>
        have ey : Aside0 (kubeV (Lb b) = .tuple #[.int .i64 (val y.2.1 : Int), .int .i64 (y.1 : Int), .int .i64 (val y.2.2 : Int), .bool true]) := ⟨by unfold kubeV; rw [hy]⟩
        have hk : Aside0 (kcmp (Lb a) (Lb b) = -1) := ⟨by unfold kcmp; rw [if_neg (mk_ne hab), hx, hy]⟩
        clear hx hy ka kb hab
        go_enter Tryd.func57, Tryd.ntmps57
        go_wp2_with (first
          | (go_at_call 78; (with_reducible refine (HA.out _).mono ?_); rintro e w1 ⟨he, hb⟩; rw [ex.out] at he; subst he; have B1 := Aside0.mk hb; clear hb)
          | (go_at_call 78; (with_reducible refine (HB.out _).mono ?_); rintro e w2 ⟨he, hb⟩; rw [ey.out] at he; subst he; have B2 := Aside0.mk (below_step B1.out hb); clear hb))
        go_ret
        exact ⟨by rw [hk.out]; rfl, B2.out⟩
    | some x =>
      have ex : Aside0 (kubeV (Lb a) = .tuple #[.int .i64 (val x.2.1 : Int), .int .i64 (x.1 : Int), .int .i64 (val x.2.2 : Int), .bool true]) := ⟨by unfold kubeV; rw [hx]⟩
      cases hy : kube (Lb b) with
      | none =>
        have ey : Aside0 (kubeV (Lb b) = .tuple #[.int .i64 0, .int .i64 0, .int .i64 0, .bool false]) := ⟨by unfold kubeV; rw [hy]⟩
        have hk : Aside0 (kcmp (Lb a) (Lb b) = 1) := ⟨by unfold kcmp; rw [if_neg (mk_ne hab), hx, hy]⟩
        clear hx hy ka kb hab
        go_enter Tryd.func57, Tryd.ntmps57
        go_wp2_with (first
          | (go_at_call 78; (with_reducible refine (HA.out _).mono ?_); rintro e w1 ⟨he, hb⟩; rw [ex.out] at he; subst he; have B1 := Aside0.mk hb; clear hb)
          | (go_at_call 78; (with_reducible refine (HB.out _).mono ?_); rintro e w2 ⟨he, hb⟩; rw [ey.out] at he; subst he; have B2 := Aside0.mk (below_step B1.out hb); clear hb))
        go_ret
        exact ⟨by rw [hk.out]; rfl, B2.out⟩
      | some y =>
        have ey : Aside0 (kubeV (Lb b) = .tuple #[.int .i64 (val y.2.1 : Int), .int .i64 (y.1 : Int), .int .i64 (val y.2.2 : Int), .bool true]) := ⟨by unfold kubeV; rw [hy]⟩
        obtain ⟨x1, x2, x3, x4, -, -⟩ := kube_some hx
        obtain ⟨y1, y2, y3, y4, -, -⟩ := kube_some hy
        obtain ⟨xl, xm⟩ := ka _ hx
        obtain ⟨yl, ym⟩ := kb _ hy
        have vx := val_lt (Or.inl x2) xl
        have vy := val_lt (Or.inl y2) yl
        have ux := val_lt (l := x.2.2) (by by_cases h : x.1 = 2; exact Or.inr (x3 h); exact Or.inl (x4 h)) xm
        have uy := val_lt (l := y.2.2) (by by_cases h : y.1 = 2; exact Or.inr (y3 h); exact Or.inl (y4 h)) ym
        have hk0 : kcmp (Lb a) (Lb b) = if x.1 ≠ y.1 then (x.1 : Int) - (y.1 : Int) else if val x.2.1 ≠ val y.2.1 then (val x.2.1 : Int) - (val y.2.1 : Int) else (val x.2.2 : Int) - (val y.2.2 : Int) := by unfold kcmp; rw [if_neg (mk_ne hab), hx, hy]
        clear hx hy ka kb hab x2 x3 x4 y2 y3 y4 xl xm yl ym
        generalize x.1 = p at ex hk0 x1
        generalize y.1 = q at ey hk0 y1
        generalize val x.2.1 = P at ex hk0 vx
        generalize val y.2.1 = Q at ey hk0 vy
        generalize val x.2.2 = U at ex hk0 ux
        generalize val y.2.2 = V at ey hk0 uy
        have s1 : Aside0 (wrap64 ((p : Int) - (q : Int)) = (p : Int) - (q : Int)) := ⟨w64 _ (by omega) (by omega)⟩
        have s2 : Aside0 (wrap64 ((P : Int) - (Q : Int)) = (P : Int) - (Q : Int)) := ⟨w64 _ (by omega) (by omega)⟩
        have s3 : Aside0 (wrap64 ((U : Int) - (V : Int)) = (U : Int) - (V : Int)) := ⟨w64 _ (by omega) (by omega)⟩
        by_cases c1 : p = q
        · subst c1
          by_cases c2 : P = Q
          · subst c2
            have hk : Aside0 (kcmp (Lb a) (Lb b) = (U : Int) - (V : Int)) := ⟨by rw [hk0, if_neg (by simp), if_neg (by simp)]⟩
            clear hk0 vx vy ux uy x1 y1
            go_enter Tryd.func57, Tryd.ntmps57
            go_wp2_with (first
              | (go_at_call 78; (with_reducible refine (HA.out _).mono ?_); rintro e w1 ⟨he, hb⟩; rw [ex.out] at he; subst he; have B1 := Aside0.mk hb; clear hb)
              | (go_at_call 78; (with_reducible refine (HB.out _).mono ?_); rintro e w2 ⟨he, hb⟩; rw [ey.out] at he; subst he; have B2 := Aside0.mk (below_step B1.out hb); clear hb))
            go_ret
            exact ⟨by rw [hk.out]; simp [s3.out], B2.out⟩
          · have hk : Aside0 (kcmp (Lb a) (Lb b) = (P : Int) - (Q : Int)) := ⟨by rw [hk0, if_neg (by simp), if_pos c2]⟩
            have f1 : ((P : Int) != (Q : Int)) = true := bne_iff_ne.2 (by omega)
            have f2 : ((P : Int) == (Q : Int)) = false := beq_eq_false_iff_ne.2 (by omega)
            have f3 : ((P : Int) = (Q : Int)) = False := eq_false (by omega)
            have f4 : (P = Q) = False := eq_false c2
            clear hk0 vx vy ux uy x1 y1 c2
            go_enter Tryd.func57, Tryd.ntmps57
            go_wp2_with (first
              | (go_at_call 78; (with_reducible refine (HA.out _).mono ?_); rintro e w1 ⟨he, hb⟩; rw [ex.out] at he; subst he; have B1 := Aside0.mk hb; clear hb)
              | (go_at_call 78; (with_reducible refine (HB.out _).mono ?_); rintro e w2 ⟨he, hb⟩; rw [ey.out] at he; subst he; have B2 := Aside0.mk (below_step B1.out hb); clear hb))
            go_ret
            exact ⟨by rw [hk.out]; simp [s2.out], B2.out⟩
        · have hk : Aside0 (kcmp (Lb a) (Lb b) = (p : Int) - (q : Int)) := ⟨by rw [hk0, if_pos c1]⟩
          have f1 : ((p : Int) != (q : Int)) = true := bne_iff_ne.2 (by omega)
          have f2 : ((p : Int) == (q : Int)) = false := beq_eq_false_iff_ne.2 (by omega)
          have f3 : ((p : Int) = (q : Int)) = False := eq_false (by omega)
          have f4 : (p = q) = False := eq_false c1
          clear hk0 vx vy ux uy x1 y1 c1
          go_enter Tryd.func57, Tryd.ntmps57
          go_wp2_with (first
            | (go_at_call 78; (with_reducible refine (HA.out _).mono ?_); rintro e w1 ⟨he, hb⟩; rw [ex.out] at he; subst he; have B1 := Aside0.mk hb; clear hb)
            | (go_at_call 78; (with_reducible refine (HB.out _).mono ?_); rintro e w2 ⟨he, hb⟩; rw [ey.out] at he; subst he; have B2 := Aside0.mk (below_step B1.out hb); clear hb))
          go_ret
          exact ⟨by rw [hk.out]; simp [s1.out], B2.out⟩
set_option maxRecDepth 100000 in
theorem kc_calls (a b : ByteArray) (ha : a.size ≤ 1099511627776) (hb : b.size ≤ 1099511627776) (ka : KAsk (Lb a)) (kb : KAsk (Lb b)) (w : World) :
    Calls Tryd.prog 26 #[.string a, .string b] w fun e w' => e = .returned (.int .i64 (kcmp (Lb a) (Lb b))) ∧ Below w.heap.size w w' := by
  have HA := Aside0.mk (fun w => ck_calls a b ha hb ka kb w)
  clear ha hb ka kb
  go_enter Tryd.func26, Tryd.ntmps26
  go_wp2_with (go_at_call 57; (with_reducible refine (HA.out _).mono ?_); rintro e w1 ⟨rfl, hb⟩)
  go_ret
  exact ⟨rfl, hb⟩
end Go.Proofs.YtomoefldmgfaoaaDoor.Pv
