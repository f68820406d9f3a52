/- The reader of the fields: the package's walk. -/
import Derived.Test.YtihlmkgffifknaaDoorReadY
set_option linter.unusedVariables false
set_option linter.unusedSimpArgs false
namespace Go.Proofs.YtihlmkgffifknaaDoor.Read
open Go Go.Sort Go.RowKit Go.Proofs.YtihlmkgffifknaaDoorW.PrintWords

def cellsM (x : St) : Obj := .cells #[.int .i64 x.1, .int .i32 x.2.1, .string x.2.2] 51 (0, 0)
theorem BytesAt.grown {w w' : World} {b A g : Nat} {ys : List Int} (h : BytesAt w b A ys) (hg : w.grownBy w' (some g)) (hne : b ≠ g) : BytesAt w' b A ys :=
  fun j hj => hg.cell (h j hj) (fun e => hne (by injection e))
theorem GErr.grown {w w' : World} {g : Nat} (h : GErr w) (hg : w.grownBy w' (some g)) (h3 : 3 ≤ g) : GErr w' := by
  obtain ⟨t0, v0, t1, v1, t2, v2, h0, h1, h2⟩ := h
  exact ⟨t0, v0, t1, v1, t2, v2, hg.cell h0 (fun e => by injection e with e; simp at e; omega), hg.cell h1 (fun e => by injection e with e; simp at e; omega), hg.cell h2 (fun e => by injection e with e; simp at e; omega)⟩
theorem grown_set (w : World) (g j : Nat) (u : Value) : w.grownBy (w.setCell ⟨g, j, none⟩ u) (some g) :=
  ⟨rfl, rfl, rfl, by simp [World.setCell], fun k _ hne => Below.heap_setCell _ _ _ _ (fun e => hne (by rw [e]))⟩
set_option maxRecDepth 100000 in
theorem new_calls (s : ByteArray) (w : World) : Calls Tryd.prog 29 #[.string s] w fun e w' => (∃ t u, e = .returned (.iface t u)) ∧ Below w.heap.size w w' := by
  have hu1 := Tryd.underlying74
  go_enter Tryd.func29, Tryd.ntmps29
  go_wp2
  go_ret
  exact ⟨⟨_, _, rfl⟩, by repeat (first | exact Below.refl _ _ | apply below_alloc | apply pw_below_drewN | apply below_drew1)⟩
theorem BytesAt.tail {w : World} {b A : Nat} {ys : List Int} (h : BytesAt w b A ys) (q : Nat) : BytesAt w b (A + q) (ys.drop q) := by
  intro i hi
  rw [List.length_drop] at hi
  rw [Nat.add_assoc, h (q + i) (by omega)]
  simp
theorem shl32 (c : Int) (i : Nat) : IntKind.i32.wrap (c % 128 * 2 ^ min (7 * (i : Int)).toNat IntKind.i32.bits) = wrap32 (c % 128 * 2 ^ (7 * i)) := by
  rw [IntWalk.i32_left]
  have e : (7 * (i : Int)).toNat = 7 * i := by omega
  rw [e, show IntKind.i32.bits = 32 from rfl]
  rcases Nat.le_total (7 * i) 32 with h | h
  · rw [Nat.min_eq_left h]
  · rw [Nat.min_eq_right h]
    apply wrap32_cong
    obtain ⟨d, hd⟩ : ∃ d, 7 * i = 32 + d := ⟨7 * i - 32, by omega⟩
    rw [hd, Int.pow_add, ← Int.mul_assoc, show ((2 : Int) ^ 32) = 4294967296 from rfl, Int.mul_emod_left]
    rw [Int.mul_assoc, Int.mul_comm (4294967296 : Int), ← Int.mul_assoc, Int.mul_emod_left]
theorem shift32 (c : Int) (i : Nat) : Op.shift .shl .i32 (c % 128) .u64 (7 * (i : Int)) = pure (.int .i32 (wrap32 (c % 128 * 2 ^ (7 * i)))) := by
  rw [shift_shl_any .i32 .u64 _ _ (by omega), shl32]
theorem less_of {q N L : Nat} (h1 : q + N ≤ L ∧ 0 < N) (hlt : q < L) (e : wrap64 ((q : Int) + (N : Int)) = (q : Int) + (N : Int)) : L - (intOf (.int .i64 (wrap64 ((q : Int) + (N : Int))))).toNat < L - (intOf (.int .i64 (q : Int))).toNat := by
  rw [e]
  show L - ((q : Int) + (N : Int)).toNat < L - (q : Int).toNat
  omega
theorem all_pos {zs : List Int} (h : 0 < zs.length) {m : Nat} (hm : zs.length < m + 1) (x : St) : all (m + 1) zs x = match fld zs x with
    | .left => .left
    | .bad => .bad
    | .on k y => all m (zs.drop k) y := all_cons h m x
set_option maxRecDepth 100000 in
set_option maxHeartbeats 8000000 in
theorem unm_calls (b A cp g : Nat) (zs : List Int) (x0' : St) (w : World) (hz : BytesAt w b A zs) (hr : Bys zs) (hmax : zs.length ≤ 2147483647) (hcap : zs.length ≤ cp) (hbg : b ≠ g) (hg3 : 3 ≤ g) (hge : GErr w) (hm : w.heap[g]? = some (cellsM x0')) (hleft : all (zs.length + 1) zs x0' ≠ .left) :
    Calls Tryd.prog 23 #[.pointer (some ⟨g, 0, none⟩), .slice (some ⟨b, A, none⟩) zs.length cp] w fun e w' => w.grownBy w' (some g) ∧
      ((all (zs.length + 1) zs x0' = .bad ∧ ∃ t u, e = .returned (.iface t u)) ∨ ∃ y, all (zs.length + 1) zs x0' = .ok y ∧ e = .returned .nilIface ∧ w'.heap[g]? = some (cellsM y)) := by
  have mixed : Tryd.prog.follows .mixedOrders = true := by kernel_rfl
  have hu1 := Tryd.underlying51
  have HZ := Aside0.mk hz
  have HR := Aside0.mk hr
  have HE := Aside0.mk hge
  have HL := Aside0.mk hleft
  clear hz hr hge hleft
  go_enter Tryd.func23, Tryd.ntmps23
  go_wp2
  go_loopw [6] (fun p wr => ∃ (q : Nat) (x : St) (m : Nat), q ≤ zs.length ∧ p = .int .i64 (q : Int) ∧ zs.length - q < m ∧ Aside0 (all (zs.length + 1) zs x0' = all m (zs.drop q) x) ∧ Aside0 (wr.heap[g]? = some (cellsM x)) ∧ Aside0 (w.grownBy wr (some g))) (fun p _ => zs.length - (intOf p).toNat)
  case atStart => exact ⟨0, x0', zs.length + 1, by omega, rfl, by omega, ⟨rfl⟩, ⟨hm⟩, ⟨World.grownBy.refl _ _⟩⟩
  case round =>
    clear hm
    obtain ⟨q, x, m, hq, rfl, hm, HV, HC, HG⟩ := hrel
    by_cases hlt : q < zs.length
    · have z0 : ((q : Int) < (zs.length : Int)) = True := eq_true (by omega)
      obtain ⟨m, rfl⟩ : ∃ r, m = r + 1 := ⟨m - 1, by omega⟩
      have HV := Aside0.mk (HV.out.trans (all_cons (by rw [List.length_drop]; omega) m x))
      have HGE := Aside0.mk (HE.out.grown HG.out hg3)
      have HBy := Aside0.mk (HZ.out.grown HG.out hbg)
      rcases hv : rv 0 0 (zs.drop q) with _ | ⟨v, k⟩
      ·
        have HBAD : Aside0 (all (zs.length + 1) zs x0' = .bad) := ⟨HV.out.trans (by rw [fld, hv])⟩
        have HV0 := Aside0.mk hv
        clear HV hv
        as_aux_lemma =>
          go_wp2
          go_loopw [6, 8, 9] (fun p a sh wi => ∃ (i : Nat) (X : Int), q + i ≤ zs.length ∧ i ≤ 10 ∧ p = .int .i64 ((q + i : Nat) : Int) ∧ a = .int .u64 X ∧ sh = .int .u64 ((7 * i : Nat) : Int) ∧ Aside0 (rv 0 0 (zs.drop (q)) = rv i X (zs.drop (q + i))) ∧ wi = wr) (fun p _ _ _ => zs.length - (intOf p).toNat)
          case atStart => exact ⟨0, 0, by omega, by omega, by go_num, rfl, rfl, ⟨rfl⟩, rfl⟩
          case round =>
            obtain ⟨i, X, hi, hi10, rfl, rfl, rfl, HI, rfl⟩ := hrel
            obtain ⟨e0, p0, e1, p1, e2, p2, g0, g1, g2⟩ := HGE.out
            by_cases h10 : i = 10
            · have t1 : ((64 : Int) ≤ ((7 * i : Nat) : Int)) = True := eq_true (by omega)
              go_wp2
              repeat (go_quiet (fail); try go_wp2)
              go_ret
              exact ⟨by first | exact HG.out | (exact (HG.out).trans ⟨rfl, rfl, rfl, Nat.le_refl _, fun _ _ _ => rfl⟩), .inl ⟨HBAD.out, _, _, rfl⟩⟩
            have t1 : ((64 : Int) ≤ ((7 * i : Nat) : Int)) = False := eq_false (by omega)
            by_cases hlt2 : q + i < zs.length
            case neg =>
              have t2 : ((zs.length : Int) ≤ ((q + i : Nat) : Int)) = True := eq_true (by omega)
              go_wp2
              repeat (go_quiet (fail); try go_wp2)
              go_ret
              exact ⟨by first | exact HG.out | (exact (HG.out).trans ⟨rfl, rfl, rfl, Nat.le_refl _, fun _ _ _ => rfl⟩), .inl ⟨HBAD.out, _, _, rfl⟩⟩
            have t2 : ((zs.length : Int) ≤ ((q + i : Nat) : Int)) = False := eq_false (by omega)
            have hx := HBy.out (q + i) hlt2
            have hr1 := HR.out (q + i)
            have hmask := mask8 hr1.1 hr1.2
            by_cases h128 : zs.getD (q + i) 0 < 128
            · have he := HV0.out.symm.trans (HI.out.trans (rv_last hlt2 h10 h128))
              simp at he
            · have HM := Aside0.mk (HI.out.trans (rv_more hlt2 h10 h128))
              generalize hc : zs.getD (q + i) 0 = c at hx hr1 h128 hmask HM
              clear hc
              go_wp2
              go_roundw
              case rel => exact ⟨i + 1, _, by omega, by omega, by go_num, rfl, by go_num, ⟨HM.out⟩, (by first | rfl | trivial)⟩
              case measure => simp [intOf]; omega
      · have HV := Aside0.mk (HV.out.trans (by rw [fld_some hv x]))
        obtain ⟨⟨v0, v1⟩, k0, k1⟩ := rv_range (zs.drop q) 0 0 v k hv
        rw [List.length_drop] at k1
        have hm7 := mask7 v0 v1
        have HV0 := Aside0.mk hv
        clear hv
        by_cases hLf : v % 8 = 3 ∨ v % 8 = 4 ∨ 5 < v % 8 ∨ v / 8 = 0 ∨ 268435456 < v / 8
        · exact absurd (HV.out.trans (by rw [fldT, if_pos hLf])) HL.out
        have n3 : v % 8 ≠ 3 := by omega
        have n4 : v % 8 ≠ 4 := by omega
        have n5 : v % 8 ≤ 5 := by omega
        have f0 : v / 8 ≠ 0 := by omega
        have f1 : v / 8 ≤ 268435456 := by omega
        have E32 : Aside0 (wrap32 (v / 8) = v / 8) := ⟨IntWalk.wrap32_in _ ⟨by omega, by omega⟩⟩
        have bf9 : (v / 8 ≤ 0) = False := eq_false (by omega)
        by_cases hL2 : v / 8 ≤ 3 ∧ ¬ ((v / 8 = 1 ∧ v % 8 = 0) ∨ (v / 8 = 2 ∧ v % 8 = 0) ∨ (v / 8 = 3 ∧ v % 8 = 2))
        ·
          by_cases hF1 : v / 8 = 1
          · have HBAD : Aside0 (all (zs.length + 1) zs x0' = .bad) := ⟨HV.out.trans (by rw [fldT, if_neg hLf, if_pos hL2])⟩
            have kk : (v % 8 == 0) = false := beq_eq_false_iff_ne.2 (by omega)
            have bk4 : (v % 8 == 4) = false := beq_eq_false_iff_ne.2 (by omega)
            have bf1 : (v / 8 == 1) = true := beq_iff_eq.2 (by omega)
            have bf2 : (v / 8 == 2) = false := beq_eq_false_iff_ne.2 (by omega)
            have bf3 : (v / 8 == 3) = false := beq_eq_false_iff_ne.2 (by omega)
            clear HV
            as_aux_lemma =>
              go_wp2
              go_loopw [6, 8, 9] (fun p a sh wi => ∃ (i : Nat) (X : Int), q + i ≤ zs.length ∧ i ≤ 10 ∧ p = .int .i64 ((q + i : Nat) : Int) ∧ a = .int .u64 X ∧ sh = .int .u64 ((7 * i : Nat) : Int) ∧ Aside0 (rv 0 0 (zs.drop (q)) = rv i X (zs.drop (q + i))) ∧ wi = wr) (fun p _ _ _ => zs.length - (intOf p).toNat)
              case atStart => exact ⟨0, 0, by omega, by omega, by go_num, rfl, rfl, ⟨rfl⟩, rfl⟩
              case round =>
                obtain ⟨i, X, hi, hi10, rfl, rfl, rfl, HI, rfl⟩ := hrel
                have h10 : i ≠ 10 := fun e => by subst e; have := HV0.out.symm.trans (HI.out.trans (rv_ten' _ _)); simp at this
                have t1 : ((64 : Int) ≤ ((7 * i : Nat) : Int)) = False := eq_false (by omega)
                have hlt2 : q + i < zs.length := by
                  rcases Nat.lt_or_ge (q + i) zs.length with h | h
                  · exact h
                  · have := HV0.out.symm.trans (HI.out.trans (by rw [List.drop_eq_nil_of_le h, rv_nil])); simp at this
                have t2 : ((zs.length : Int) ≤ ((q + i : Nat) : Int)) = False := eq_false (by omega)
                have hx := HBy.out (q + i) hlt2
                have hr1 := HR.out (q + i)
                have hmask := mask8 hr1.1 hr1.2
                by_cases h128 : zs.getD (q + i) 0 < 128
                · have he := HV0.out.symm.trans (HI.out.trans (rv_last hlt2 h10 h128))
                  injection he with he; injection he with he1 he2
                  have HA1 := Aside0.mk he1
                  clear he1
                  generalize hc : zs.getD (q + i) 0 = c at hx hr1 h128 hmask HA1
                  have he3 : bits .or .u64 X (IntKind.u64.wrap (c % 128 * 2 ^ (7 * i))) = v := HA1.out.symm
                  have e32 := E32.out
                  clear hc HA1
                  go_wp2_with (go_at_call 29; (with_reducible refine (new_calls _ _).mono ?_); rintro e w1 ⟨⟨t, u, rfl⟩, hb⟩; have HN := Aside0.mk hb; clear hb)
                  go_ret
                  exact ⟨HG.out.trans (grown_of_below HN.out _), .inl ⟨HBAD.out, _, _, rfl⟩⟩
                · have HM := Aside0.mk (HI.out.trans (rv_more hlt2 h10 h128))
                  generalize hc : zs.getD (q + i) 0 = c at hx hr1 h128 hmask HM
                  clear hc
                  go_wp2
                  go_roundw
                  case rel => exact ⟨i + 1, _, by omega, by omega, by go_num, rfl, by go_num, ⟨HM.out⟩, (by first | rfl | trivial)⟩
                  case measure => simp [intOf]; omega
          by_cases hF2 : v / 8 = 2
          · have HBAD : Aside0 (all (zs.length + 1) zs x0' = .bad) := ⟨HV.out.trans (by rw [fldT, if_neg hLf, if_pos hL2])⟩
            have kk : (v % 8 == 0) = false := beq_eq_false_iff_ne.2 (by omega)
            have bk4 : (v % 8 == 4) = false := beq_eq_false_iff_ne.2 (by omega)
            have bf1 : (v / 8 == 1) = false := beq_eq_false_iff_ne.2 (by omega)
            have bf2 : (v / 8 == 2) = true := beq_iff_eq.2 (by omega)
            have bf3 : (v / 8 == 3) = false := beq_eq_false_iff_ne.2 (by omega)
            clear HV
            as_aux_lemma =>
              go_wp2
              go_loopw [6, 8, 9] (fun p a sh wi => ∃ (i : Nat) (X : Int), q + i ≤ zs.length ∧ i ≤ 10 ∧ p = .int .i64 ((q + i : Nat) : Int) ∧ a = .int .u64 X ∧ sh = .int .u64 ((7 * i : Nat) : Int) ∧ Aside0 (rv 0 0 (zs.drop (q)) = rv i X (zs.drop (q + i))) ∧ wi = wr) (fun p _ _ _ => zs.length - (intOf p).toNat)
              case atStart => exact ⟨0, 0, by omega, by omega, by go_num, rfl, rfl, ⟨rfl⟩, rfl⟩
              case round =>
                obtain ⟨i, X, hi, hi10, rfl, rfl, rfl, HI, rfl⟩ := hrel
                have h10 : i ≠ 10 := fun e => by subst e; have := HV0.out.symm.trans (HI.out.trans (rv_ten' _ _)); simp at this
                have t1 : ((64 : Int) ≤ ((7 * i : Nat) : Int)) = False := eq_false (by omega)
                have hlt2 : q + i < zs.length := by
                  rcases Nat.lt_or_ge (q + i) zs.length with h | h
                  · exact h
                  · have := HV0.out.symm.trans (HI.out.trans (by rw [List.drop_eq_nil_of_le h, rv_nil])); simp at this
                have t2 : ((zs.length : Int) ≤ ((q + i : Nat) : Int)) = False := eq_false (by omega)
                have hx := HBy.out (q + i) hlt2
                have hr1 := HR.out (q + i)
                have hmask := mask8 hr1.1 hr1.2
                by_cases h128 : zs.getD (q + i) 0 < 128
                · have he := HV0.out.symm.trans (HI.out.trans (rv_last hlt2 h10 h128))
                  injection he with he; injection he with he1 he2
                  have HA1 := Aside0.mk he1
                  clear he1
                  generalize hc : zs.getD (q + i) 0 = c at hx hr1 h128 hmask HA1
                  have he3 : bits .or .u64 X (IntKind.u64.wrap (c % 128 * 2 ^ (7 * i))) = v := HA1.out.symm
                  have e32 := E32.out
                  clear hc HA1
                  go_wp2_with (go_at_call 29; (with_reducible refine (new_calls _ _).mono ?_); rintro e w1 ⟨⟨t, u, rfl⟩, hb⟩; have HN := Aside0.mk hb; clear hb)
                  go_ret
                  exact ⟨HG.out.trans (grown_of_below HN.out _), .inl ⟨HBAD.out, _, _, rfl⟩⟩
                · have HM := Aside0.mk (HI.out.trans (rv_more hlt2 h10 h128))
                  generalize hc : zs.getD (q + i) 0 = c at hx hr1 h128 hmask HM
                  clear hc
                  go_wp2
                  go_roundw
                  case rel => exact ⟨i + 1, _, by omega, by omega, by go_num, rfl, by go_num, ⟨HM.out⟩, (by first | rfl | trivial)⟩
                  case measure => simp [intOf]; omega
          · have HBAD : Aside0 (all (zs.length + 1) zs x0' = .bad) := ⟨HV.out.trans (by rw [fldT, if_neg hLf, if_pos hL2])⟩
            have kk : (v % 8 == 2) = false := beq_eq_false_iff_ne.2 (by omega)
            have bk4 : (v % 8 == 4) = false := beq_eq_false_iff_ne.2 (by omega)
            have bf1 : (v / 8 == 1) = false := beq_eq_false_iff_ne.2 (by omega)
            have bf2 : (v / 8 == 2) = false := beq_eq_false_iff_ne.2 (by omega)
            have bf3 : (v / 8 == 3) = true := beq_iff_eq.2 (by omega)
            clear HV
            as_aux_lemma =>
              go_wp2
              go_loopw [6, 8, 9] (fun p a sh wi => ∃ (i : Nat) (X : Int), q + i ≤ zs.length ∧ i ≤ 10 ∧ p = .int .i64 ((q + i : Nat) : Int) ∧ a = .int .u64 X ∧ sh = .int .u64 ((7 * i : Nat) : Int) ∧ Aside0 (rv 0 0 (zs.drop (q)) = rv i X (zs.drop (q + i))) ∧ wi = wr) (fun p _ _ _ => zs.length - (intOf p).toNat)
              case atStart => exact ⟨0, 0, by omega, by omega, by go_num, rfl, rfl, ⟨rfl⟩, rfl⟩
              case round =>
                obtain ⟨i, X, hi, hi10, rfl, rfl, rfl, HI, rfl⟩ := hrel
                have h10 : i ≠ 10 := fun e => by subst e; have := HV0.out.symm.trans (HI.out.trans (rv_ten' _ _)); simp at this
                have t1 : ((64 : Int) ≤ ((7 * i : Nat) : Int)) = False := eq_false (by omega)
                have hlt2 : q + i < zs.length := by
                  rcases Nat.lt_or_ge (q + i) zs.length with h | h
                  · exact h
                  · have := HV0.out.symm.trans (HI.out.trans (by rw [List.drop_eq_nil_of_le h, rv_nil])); simp at this
                have t2 : ((zs.length : Int) ≤ ((q + i : Nat) : Int)) = False := eq_false (by omega)
                have hx := HBy.out (q + i) hlt2
                have hr1 := HR.out (q + i)
                have hmask := mask8 hr1.1 hr1.2
                by_cases h128 : zs.getD (q + i) 0 < 128
                · have he := HV0.out.symm.trans (HI.out.trans (rv_last hlt2 h10 h128))
                  injection he with he; injection he with he1 he2
                  have HA1 := Aside0.mk he1
                  clear he1
                  generalize hc : zs.getD (q + i) 0 = c at hx hr1 h128 hmask HA1
                  have he3 : bits .or .u64 X (IntKind.u64.wrap (c % 128 * 2 ^ (7 * i))) = v := HA1.out.symm
                  have e32 := E32.out
                  clear hc HA1
                  go_wp2_with (go_at_call 29; (with_reducible refine (new_calls _ _).mono ?_); rintro e w1 ⟨⟨t, u, rfl⟩, hb⟩; have HN := Aside0.mk hb; clear hb)
                  go_ret
                  exact ⟨HG.out.trans (grown_of_below HN.out _), .inl ⟨HBAD.out, _, _, rfl⟩⟩
                · have HM := Aside0.mk (HI.out.trans (rv_more hlt2 h10 h128))
                  generalize hc : zs.getD (q + i) 0 = c at hx hr1 h128 hmask HM
                  clear hc
                  go_wp2
                  go_roundw
                  case rel => exact ⟨i + 1, _, by omega, by omega, by go_num, rfl, by go_num, ⟨HM.out⟩, (by first | rfl | trivial)⟩
                  case measure => simp [intOf]; omega
        have HF := Aside0.mk (show fldT (zs.drop q) x v k = _ by rw [fldT, if_neg hLf, if_neg hL2])
        have q7 : (zs.drop q).drop k = zs.drop (q + k) := by rw [List.drop_drop]
        by_cases hK0 : v % 8 = 0
        · have HF := Aside0.mk (HF.out.trans (if_pos hK0))
          by_cases hF1 : v / 8 = 1
          · rcases hv2 : rv 0 0 (zs.drop (q + k)) with _ | ⟨n, j⟩
            ·
              have HBAD : Aside0 (all (zs.length + 1) zs x0' = .bad) := ⟨HV.out.trans (by rw [HF.out, fldN, q7, hv2])⟩
              have HV2 := Aside0.mk hv2
              clear HV HF hv2 q7
              have bk0 : (v % 8 == 0) = true := beq_iff_eq.2 (by omega)
              have bk1 : (v % 8 == 1) = false := beq_eq_false_iff_ne.2 (by omega)
              have bk2 : (v % 8 == 2) = false := beq_eq_false_iff_ne.2 (by omega)
              have bk3 : (v % 8 == 3) = false := beq_eq_false_iff_ne.2 (by omega)
              have bk4 : (v % 8 == 4) = false := beq_eq_false_iff_ne.2 (by omega)
              have bk5 : (v % 8 == 5) = false := beq_eq_false_iff_ne.2 (by omega)
              have bf1 : (v / 8 == 1) = true := beq_iff_eq.2 (by omega)
              have bf2 : (v / 8 == 2) = false := beq_eq_false_iff_ne.2 (by omega)
              have bf3 : (v / 8 == 3) = false := beq_eq_false_iff_ne.2 (by omega)
              have c0 : _ = some (Value.int .i64 (x.1)) := blk_cell HC.out 0
              have c1 : _ = some (Value.int .i32 (x.2.1)) := blk_cell HC.out 1
              have c2 : _ = some (Value.string x.2.2) := blk_cell HC.out 2
              have r0 := blk_frozen HC.out 0; have r1 := blk_frozen HC.out 1; have r2 := blk_frozen HC.out 2
              as_aux_lemma =>
                go_wp2
                go_loopw [6, 8, 9] (fun p a sh wi => ∃ (i : Nat) (X : Int), q + i ≤ zs.length ∧ i ≤ 10 ∧ p = .int .i64 ((q + i : Nat) : Int) ∧ a = .int .u64 X ∧ sh = .int .u64 ((7 * i : Nat) : Int) ∧ Aside0 (rv 0 0 (zs.drop (q)) = rv i X (zs.drop (q + i))) ∧ wi = wr) (fun p _ _ _ => zs.length - (intOf p).toNat)
                case atStart => exact ⟨0, 0, by omega, by omega, by go_num, rfl, rfl, ⟨rfl⟩, rfl⟩
                case round =>
                  obtain ⟨i, X, hi, hi10, rfl, rfl, rfl, HI, rfl⟩ := hrel
                  have h10 : i ≠ 10 := fun e => by subst e; have := HV0.out.symm.trans (HI.out.trans (rv_ten' _ _)); simp at this
                  have t1 : ((64 : Int) ≤ ((7 * i : Nat) : Int)) = False := eq_false (by omega)
                  have hlt2 : q + i < zs.length := by
                    rcases Nat.lt_or_ge (q + i) zs.length with h | h
                    · exact h
                    · have := HV0.out.symm.trans (HI.out.trans (by rw [List.drop_eq_nil_of_le h, rv_nil])); simp at this
                  have t2 : ((zs.length : Int) ≤ ((q + i : Nat) : Int)) = False := eq_false (by omega)
                  have hx := HBy.out (q + i) hlt2
                  have hr1 := HR.out (q + i)
                  have hmask := mask8 hr1.1 hr1.2
                  by_cases h128 : zs.getD (q + i) 0 < 128
                  · have he := HV0.out.symm.trans (HI.out.trans (rv_last hlt2 h10 h128))
                    injection he with he; injection he with he1 he2
                    have HA1 := Aside0.mk he1
                    clear he1
                    generalize hc : zs.getD (q + i) 0 = c at hx hr1 h128 hmask HA1
                    have he3 : bits .or .u64 X (IntKind.u64.wrap (c % 128 * 2 ^ (7 * i))) = v := HA1.out.symm
                    have e32 := E32.out
                    have HK := Aside0.mk he2
                    clear hc HA1 he2
                    go_wp2
                    clear hx hr1 h128 hmask he3 t1 t2
                    go_loopw [6, 13] (fun p sh wi => ∃ (i : Nat) (X : Int), q + k + i ≤ zs.length ∧ i ≤ 10 ∧ p = .int .i64 ((q + k + i : Nat) : Int) ∧ sh = .int .u64 ((7 * i : Nat) : Int) ∧ Aside0 (rv 0 0 (zs.drop (q + k)) = rv i X (zs.drop (q + k + i))) ∧ Aside0 (wi.heap[g]? = some (cellsM (wrap64 X, x.2.1, x.2.2))) ∧ Aside0 (w.grownBy wi (some g))) (fun p _ _ => zs.length - (intOf p).toNat)
                    case atStart => exact ⟨0, 0, by omega, by omega, (by have := HK.out; simp; omega), rfl, ⟨rfl⟩, ⟨blk_put HC.out 0 _ (by rw [IntWalk.wrap64_in 0 ⟨by decide, by decide⟩]; rfl)⟩, ⟨HG.out.trans (grown_set _ _ _ _)⟩⟩
                    case round =>
                      obtain ⟨i, X, hi, hi10, rfl, rfl, HI, HCi, HGi⟩ := hrel
                      have HGE := Aside0.mk (HE.out.grown HGi.out hg3)
                      have HBy := Aside0.mk (HZ.out.grown HGi.out hbg)
                      have c0 : _ = some (Value.int .i64 (wrap64 X)) := blk_cell HCi.out 0
                      have c1 : _ = some (Value.int .i32 (x.2.1)) := blk_cell HCi.out 1
                      have c2 : _ = some (Value.string x.2.2) := blk_cell HCi.out 2
                      have r0 := blk_frozen HCi.out 0; have r1 := blk_frozen HCi.out 1; have r2 := blk_frozen HCi.out 2
                      obtain ⟨e0, p0, e1, p1, e2, p2, g0, g1, g2⟩ := HGE.out
                      by_cases h10 : i = 10
                      · have t1 : ((64 : Int) ≤ ((7 * i : Nat) : Int)) = True := eq_true (by omega)
                        go_wp2
                        repeat (go_quiet (fail); try go_wp2)
                        go_ret
                        exact ⟨by first | exact HGi.out | (exact (HGi.out).trans ⟨rfl, rfl, rfl, Nat.le_refl _, fun _ _ _ => rfl⟩), .inl ⟨HBAD.out, _, _, rfl⟩⟩
                      have t1 : ((64 : Int) ≤ ((7 * i : Nat) : Int)) = False := eq_false (by omega)
                      by_cases hlt2 : q + k + i < zs.length
                      case neg =>
                        have t2 : ((zs.length : Int) ≤ ((q + k + i : Nat) : Int)) = True := eq_true (by omega)
                        go_wp2
                        repeat (go_quiet (fail); try go_wp2)
                        go_ret
                        exact ⟨by first | exact HGi.out | (exact (HGi.out).trans ⟨rfl, rfl, rfl, Nat.le_refl _, fun _ _ _ => rfl⟩), .inl ⟨HBAD.out, _, _, rfl⟩⟩
                      have t2 : ((zs.length : Int) ≤ ((q + k + i : Nat) : Int)) = False := eq_false (by omega)
                      have hx := HBy.out (q + k + i) hlt2
                      have hr1 := HR.out (q + k + i)
                      have hmask := mask8 hr1.1 hr1.2
                      by_cases h128 : zs.getD (q + k + i) 0 < 128
                      · have he := HV2.out.symm.trans (HI.out.trans (rv_last hlt2 h10 h128))
                        simp at he
                      · have HM := Aside0.mk (HI.out.trans (rv_more hlt2 h10 h128))
                        have hor := or64 X i _ hr1.1 hr1.2
                        generalize hc : zs.getD (q + k + i) 0 = c at hx hr1 h128 hmask hor HM
                        clear hc
                        go_wp2
                        go_roundw
                        case rel => exact ⟨i + 1, _, by omega, by omega, by go_num, by go_num, ⟨HM.out⟩, ⟨blk_put HCi.out 0 _ rfl⟩, ⟨HGi.out.trans (grown_set _ _ _ _)⟩⟩
                        case measure => simp [intOf]; omega
                  · have HM := Aside0.mk (HI.out.trans (rv_more hlt2 h10 h128))
                    generalize hc : zs.getD (q + i) 0 = c at hx hr1 h128 hmask HM
                    clear hc
                    go_wp2
                    go_roundw
                    case rel => exact ⟨i + 1, _, by omega, by omega, by go_num, rfl, by go_num, ⟨HM.out⟩, (by first | rfl | trivial)⟩
                    case measure => simp [intOf]; omega
            · obtain ⟨⟨m0, m1⟩, j0, j1⟩ := rv_range (zs.drop (q + k)) 0 0 n j hv2
              rw [List.length_drop] at j1
              have HEQ : Aside0 (all (zs.length + 1) zs x0' = all m (zs.drop (q + (k + j))) (wrap64 n, x.2.1, x.2.2)) := ⟨HV.out.trans (by rw [HF.out, fldN_some (by rw [q7]; exact hv2), if_pos hF1]; simp only [List.drop_drop])⟩
              have HV2 := Aside0.mk hv2
              clear HV HF hv2 q7
              have bk0 : (v % 8 == 0) = true := beq_iff_eq.2 (by omega)
              have bk1 : (v % 8 == 1) = false := beq_eq_false_iff_ne.2 (by omega)
              have bk2 : (v % 8 == 2) = false := beq_eq_false_iff_ne.2 (by omega)
              have bk3 : (v % 8 == 3) = false := beq_eq_false_iff_ne.2 (by omega)
              have bk4 : (v % 8 == 4) = false := beq_eq_false_iff_ne.2 (by omega)
              have bk5 : (v % 8 == 5) = false := beq_eq_false_iff_ne.2 (by omega)
              have bf1 : (v / 8 == 1) = true := beq_iff_eq.2 (by omega)
              have bf2 : (v / 8 == 2) = false := beq_eq_false_iff_ne.2 (by omega)
              have bf3 : (v / 8 == 3) = false := beq_eq_false_iff_ne.2 (by omega)
              have c0 : _ = some (Value.int .i64 (x.1)) := blk_cell HC.out 0
              have c1 : _ = some (Value.int .i32 (x.2.1)) := blk_cell HC.out 1
              have c2 : _ = some (Value.string x.2.2) := blk_cell HC.out 2
              have r0 := blk_frozen HC.out 0; have r1 := blk_frozen HC.out 1; have r2 := blk_frozen HC.out 2
              as_aux_lemma =>
                go_wp2
                go_loopw [6, 8, 9] (fun p a sh wi => ∃ (i : Nat) (X : Int), q + i ≤ zs.length ∧ i ≤ 10 ∧ p = .int .i64 ((q + i : Nat) : Int) ∧ a = .int .u64 X ∧ sh = .int .u64 ((7 * i : Nat) : Int) ∧ Aside0 (rv 0 0 (zs.drop (q)) = rv i X (zs.drop (q + i))) ∧ wi = wr) (fun p _ _ _ => zs.length - (intOf p).toNat)
                case atStart => exact ⟨0, 0, by omega, by omega, by go_num, rfl, rfl, ⟨rfl⟩, rfl⟩
                case round =>
                  obtain ⟨i, X, hi, hi10, rfl, rfl, rfl, HI, rfl⟩ := hrel
                  have h10 : i ≠ 10 := fun e => by subst e; have := HV0.out.symm.trans (HI.out.trans (rv_ten' _ _)); simp at this
                  have t1 : ((64 : Int) ≤ ((7 * i : Nat) : Int)) = False := eq_false (by omega)
                  have hlt2 : q + i < zs.length := by
                    rcases Nat.lt_or_ge (q + i) zs.length with h | h
                    · exact h
                    · have := HV0.out.symm.trans (HI.out.trans (by rw [List.drop_eq_nil_of_le h, rv_nil])); simp at this
                  have t2 : ((zs.length : Int) ≤ ((q + i : Nat) : Int)) = False := eq_false (by omega)
                  have hx := HBy.out (q + i) hlt2
                  have hr1 := HR.out (q + i)
                  have hmask := mask8 hr1.1 hr1.2
                  by_cases h128 : zs.getD (q + i) 0 < 128
                  · have he := HV0.out.symm.trans (HI.out.trans (rv_last hlt2 h10 h128))
                    injection he with he; injection he with he1 he2
                    have HA1 := Aside0.mk he1
                    clear he1
                    generalize hc : zs.getD (q + i) 0 = c at hx hr1 h128 hmask HA1
                    have he3 : bits .or .u64 X (IntKind.u64.wrap (c % 128 * 2 ^ (7 * i))) = v := HA1.out.symm
                    have e32 := E32.out
                    have HK := Aside0.mk he2
                    clear hc HA1 he2
                    go_wp2
                    clear hx hr1 h128 hmask he3 t1 t2
                    go_loopw [6, 13] (fun p sh wi => ∃ (i : Nat) (X : Int), q + k + i ≤ zs.length ∧ i ≤ 10 ∧ p = .int .i64 ((q + k + i : Nat) : Int) ∧ sh = .int .u64 ((7 * i : Nat) : Int) ∧ Aside0 (rv 0 0 (zs.drop (q + k)) = rv i X (zs.drop (q + k + i))) ∧ Aside0 (wi.heap[g]? = some (cellsM (wrap64 X, x.2.1, x.2.2))) ∧ Aside0 (w.grownBy wi (some g))) (fun p _ _ => zs.length - (intOf p).toNat)
                    case atStart => exact ⟨0, 0, by omega, by omega, (by have := HK.out; simp; omega), rfl, ⟨rfl⟩, ⟨blk_put HC.out 0 _ (by rw [IntWalk.wrap64_in 0 ⟨by decide, by decide⟩]; rfl)⟩, ⟨HG.out.trans (grown_set _ _ _ _)⟩⟩
                    case round =>
                      obtain ⟨i, X, hi, hi10, rfl, rfl, HI, HCi, HGi⟩ := hrel
                      have HGE := Aside0.mk (HE.out.grown HGi.out hg3)
                      have HBy := Aside0.mk (HZ.out.grown HGi.out hbg)
                      have c0 : _ = some (Value.int .i64 (wrap64 X)) := blk_cell HCi.out 0
                      have c1 : _ = some (Value.int .i32 (x.2.1)) := blk_cell HCi.out 1
                      have c2 : _ = some (Value.string x.2.2) := blk_cell HCi.out 2
                      have r0 := blk_frozen HCi.out 0; have r1 := blk_frozen HCi.out 1; have r2 := blk_frozen HCi.out 2
                      have h10 : i ≠ 10 := fun e => by subst e; have := HV2.out.symm.trans (HI.out.trans (rv_ten' _ _)); simp at this
                      have t1 : ((64 : Int) ≤ ((7 * i : Nat) : Int)) = False := eq_false (by omega)
                      have hlt2 : q + k + i < zs.length := by
                        rcases Nat.lt_or_ge (q + k + i) zs.length with h | h
                        · exact h
                        · have := HV2.out.symm.trans (HI.out.trans (by rw [List.drop_eq_nil_of_le h, rv_nil])); simp at this
                      have t2 : ((zs.length : Int) ≤ ((q + k + i : Nat) : Int)) = False := eq_false (by omega)
                      have hx := HBy.out (q + k + i) hlt2
                      have hr1 := HR.out (q + k + i)
                      have hmask := mask8 hr1.1 hr1.2
                      by_cases h128 : zs.getD (q + k + i) 0 < 128
                      · have he := HV2.out.symm.trans (HI.out.trans (rv_last hlt2 h10 h128))
                        injection he with he; injection he with he1 he2
                        have hor := or64 X i _ hr1.1 hr1.2
                        rw [← he1] at hor
                        have HJ := Aside0.mk he2
                        clear he1 he2
                        generalize hc : zs.getD (q + k + i) 0 = c at hx hr1 h128 hmask hor
                        clear hc
                        go_wp2
                        go_roundw
                        case rel => exact ⟨q + (k + j), _, m, by omega, (by have := HJ.out; simp; omega), by omega, HEQ, ⟨blk_put HCi.out 0 _ rfl⟩, ⟨HGi.out.trans (grown_set _ _ _ _)⟩⟩
                        case measure => have := HJ.out; simp [intOf]; omega
                      · have HM := Aside0.mk (HI.out.trans (rv_more hlt2 h10 h128))
                        have hor := or64 X i _ hr1.1 hr1.2
                        generalize hc : zs.getD (q + k + i) 0 = c at hx hr1 h128 hmask hor HM
                        clear hc
                        go_wp2
                        go_roundw
                        case rel => exact ⟨i + 1, _, by omega, by omega, by go_num, by go_num, ⟨HM.out⟩, ⟨blk_put HCi.out 0 _ rfl⟩, ⟨HGi.out.trans (grown_set _ _ _ _)⟩⟩
                        case measure => simp [intOf]; omega
                  · have HM := Aside0.mk (HI.out.trans (rv_more hlt2 h10 h128))
                    generalize hc : zs.getD (q + i) 0 = c at hx hr1 h128 hmask HM
                    clear hc
                    go_wp2
                    go_roundw
                    case rel => exact ⟨i + 1, _, by omega, by omega, by go_num, rfl, by go_num, ⟨HM.out⟩, (by first | rfl | trivial)⟩
                    case measure => simp [intOf]; omega
          by_cases hF2 : v / 8 = 2
          · rcases hv2 : rv 0 0 (zs.drop (q + k)) with _ | ⟨n, j⟩
            ·
              have HBAD : Aside0 (all (zs.length + 1) zs x0' = .bad) := ⟨HV.out.trans (by rw [HF.out, fldN, q7, hv2])⟩
              have HV2 := Aside0.mk hv2
              clear HV HF hv2 q7
              have bk0 : (v % 8 == 0) = true := beq_iff_eq.2 (by omega)
              have bk1 : (v % 8 == 1) = false := beq_eq_false_iff_ne.2 (by omega)
              have bk2 : (v % 8 == 2) = false := beq_eq_false_iff_ne.2 (by omega)
              have bk3 : (v % 8 == 3) = false := beq_eq_false_iff_ne.2 (by omega)
              have bk4 : (v % 8 == 4) = false := beq_eq_false_iff_ne.2 (by omega)
              have bk5 : (v % 8 == 5) = false := beq_eq_false_iff_ne.2 (by omega)
              have bf1 : (v / 8 == 1) = false := beq_eq_false_iff_ne.2 (by omega)
              have bf2 : (v / 8 == 2) = true := beq_iff_eq.2 (by omega)
              have bf3 : (v / 8 == 3) = false := beq_eq_false_iff_ne.2 (by omega)
              have c0 : _ = some (Value.int .i64 (x.1)) := blk_cell HC.out 0
              have c1 : _ = some (Value.int .i32 (x.2.1)) := blk_cell HC.out 1
              have c2 : _ = some (Value.string x.2.2) := blk_cell HC.out 2
              have r0 := blk_frozen HC.out 0; have r1 := blk_frozen HC.out 1; have r2 := blk_frozen HC.out 2
              as_aux_lemma =>
                go_wp2
                go_loopw [6, 8, 9] (fun p a sh wi => ∃ (i : Nat) (X : Int), q + i ≤ zs.length ∧ i ≤ 10 ∧ p = .int .i64 ((q + i : Nat) : Int) ∧ a = .int .u64 X ∧ sh = .int .u64 ((7 * i : Nat) : Int) ∧ Aside0 (rv 0 0 (zs.drop (q)) = rv i X (zs.drop (q + i))) ∧ wi = wr) (fun p _ _ _ => zs.length - (intOf p).toNat)
                case atStart => exact ⟨0, 0, by omega, by omega, by go_num, rfl, rfl, ⟨rfl⟩, rfl⟩
                case round =>
                  obtain ⟨i, X, hi, hi10, rfl, rfl, rfl, HI, rfl⟩ := hrel
                  have h10 : i ≠ 10 := fun e => by subst e; have := HV0.out.symm.trans (HI.out.trans (rv_ten' _ _)); simp at this
                  have t1 : ((64 : Int) ≤ ((7 * i : Nat) : Int)) = False := eq_false (by omega)
                  have hlt2 : q + i < zs.length := by
                    rcases Nat.lt_or_ge (q + i) zs.length with h | h
                    · exact h
                    · have := HV0.out.symm.trans (HI.out.trans (by rw [List.drop_eq_nil_of_le h, rv_nil])); simp at this
                  have t2 : ((zs.length : Int) ≤ ((q + i : Nat) : Int)) = False := eq_false (by omega)
                  have hx := HBy.out (q + i) hlt2
                  have hr1 := HR.out (q + i)
                  have hmask := mask8 hr1.1 hr1.2
                  by_cases h128 : zs.getD (q + i) 0 < 128
                  · have he := HV0.out.symm.trans (HI.out.trans (rv_last hlt2 h10 h128))
                    injection he with he; injection he with he1 he2
                    have HA1 := Aside0.mk he1
                    clear he1
                    generalize hc : zs.getD (q + i) 0 = c at hx hr1 h128 hmask HA1
                    have he3 : bits .or .u64 X (IntKind.u64.wrap (c % 128 * 2 ^ (7 * i))) = v := HA1.out.symm
                    have e32 := E32.out
                    have HK := Aside0.mk he2
                    clear hc HA1 he2
                    go_wp2
                    clear hx hr1 h128 hmask he3 t1 t2
                    go_loopw [6, 15] (fun p sh wi => ∃ (i : Nat) (X : Int), q + k + i ≤ zs.length ∧ i ≤ 10 ∧ p = .int .i64 ((q + k + i : Nat) : Int) ∧ sh = .int .u64 ((7 * i : Nat) : Int) ∧ Aside0 (rv 0 0 (zs.drop (q + k)) = rv i X (zs.drop (q + k + i))) ∧ Aside0 (wi.heap[g]? = some (cellsM (x.1, wrap32 X, x.2.2))) ∧ Aside0 (w.grownBy wi (some g))) (fun p _ _ => zs.length - (intOf p).toNat)
                    case atStart => exact ⟨0, 0, by omega, by omega, (by have := HK.out; simp; omega), rfl, ⟨rfl⟩, ⟨blk_put HC.out 1 _ (by rw [IntWalk.wrap32_in 0 ⟨by decide, by decide⟩]; rfl)⟩, ⟨HG.out.trans (grown_set _ _ _ _)⟩⟩
                    case round =>
                      obtain ⟨i, X, hi, hi10, rfl, rfl, HI, HCi, HGi⟩ := hrel
                      have HGE := Aside0.mk (HE.out.grown HGi.out hg3)
                      have HBy := Aside0.mk (HZ.out.grown HGi.out hbg)
                      have c0 : _ = some (Value.int .i64 (x.1)) := blk_cell HCi.out 0
                      have c1 : _ = some (Value.int .i32 (wrap32 X)) := blk_cell HCi.out 1
                      have c2 : _ = some (Value.string x.2.2) := blk_cell HCi.out 2
                      have r0 := blk_frozen HCi.out 0; have r1 := blk_frozen HCi.out 1; have r2 := blk_frozen HCi.out 2
                      obtain ⟨e0, p0, e1, p1, e2, p2, g0, g1, g2⟩ := HGE.out
                      by_cases h10 : i = 10
                      · have t1 : ((64 : Int) ≤ ((7 * i : Nat) : Int)) = True := eq_true (by omega)
                        go_wp2
                        repeat (go_quiet (fail); try go_wp2)
                        go_ret
                        exact ⟨by first | exact HGi.out | (exact (HGi.out).trans ⟨rfl, rfl, rfl, Nat.le_refl _, fun _ _ _ => rfl⟩), .inl ⟨HBAD.out, _, _, rfl⟩⟩
                      have t1 : ((64 : Int) ≤ ((7 * i : Nat) : Int)) = False := eq_false (by omega)
                      by_cases hlt2 : q + k + i < zs.length
                      case neg =>
                        have t2 : ((zs.length : Int) ≤ ((q + k + i : Nat) : Int)) = True := eq_true (by omega)
                        go_wp2
                        repeat (go_quiet (fail); try go_wp2)
                        go_ret
                        exact ⟨by first | exact HGi.out | (exact (HGi.out).trans ⟨rfl, rfl, rfl, Nat.le_refl _, fun _ _ _ => rfl⟩), .inl ⟨HBAD.out, _, _, rfl⟩⟩
                      have t2 : ((zs.length : Int) ≤ ((q + k + i : Nat) : Int)) = False := eq_false (by omega)
                      have hx := HBy.out (q + k + i) hlt2
                      have hr1 := HR.out (q + k + i)
                      have hmask := mask8 hr1.1 hr1.2
                      by_cases h128 : zs.getD (q + k + i) 0 < 128
                      · have he := HV2.out.symm.trans (HI.out.trans (rv_last hlt2 h10 h128))
                        simp at he
                      · have HM := Aside0.mk (HI.out.trans (rv_more hlt2 h10 h128))
                        have hor := or32 X i _ hr1.1 hr1.2
                        have hsh := shift32 (zs.getD (q + k + i) 0) i
                        generalize hc : zs.getD (q + k + i) 0 = c at hx hr1 h128 hmask hor hsh HM
                        clear hc
                        go_wp2
                        go_roundw
                        case rel => exact ⟨i + 1, _, by omega, by omega, by go_num, by go_num, ⟨HM.out⟩, ⟨blk_put HCi.out 1 _ rfl⟩, ⟨HGi.out.trans (grown_set _ _ _ _)⟩⟩
                        case measure => simp [intOf]; omega
                  · have HM := Aside0.mk (HI.out.trans (rv_more hlt2 h10 h128))
                    generalize hc : zs.getD (q + i) 0 = c at hx hr1 h128 hmask HM
                    clear hc
                    go_wp2
                    go_roundw
                    case rel => exact ⟨i + 1, _, by omega, by omega, by go_num, rfl, by go_num, ⟨HM.out⟩, (by first | rfl | trivial)⟩
                    case measure => simp [intOf]; omega
            · obtain ⟨⟨m0, m1⟩, j0, j1⟩ := rv_range (zs.drop (q + k)) 0 0 n j hv2
              rw [List.length_drop] at j1
              have HEQ : Aside0 (all (zs.length + 1) zs x0' = all m (zs.drop (q + (k + j))) (x.1, wrap32 n, x.2.2)) := ⟨HV.out.trans (by rw [HF.out, fldN_some (by rw [q7]; exact hv2), if_neg (by omega), if_pos hF2]; simp only [List.drop_drop])⟩
              have HV2 := Aside0.mk hv2
              clear HV HF hv2 q7
              have bk0 : (v % 8 == 0) = true := beq_iff_eq.2 (by omega)
              have bk1 : (v % 8 == 1) = false := beq_eq_false_iff_ne.2 (by omega)
              have bk2 : (v % 8 == 2) = false := beq_eq_false_iff_ne.2 (by omega)
              have bk3 : (v % 8 == 3) = false := beq_eq_false_iff_ne.2 (by omega)
              have bk4 : (v % 8 == 4) = false := beq_eq_false_iff_ne.2 (by omega)
              have bk5 : (v % 8 == 5) = false := beq_eq_false_iff_ne.2 (by omega)
              have bf1 : (v / 8 == 1) = false := beq_eq_false_iff_ne.2 (by omega)
              have bf2 : (v / 8 == 2) = true := beq_iff_eq.2 (by omega)
              have bf3 : (v / 8 == 3) = false := beq_eq_false_iff_ne.2 (by omega)
              have c0 : _ = some (Value.int .i64 (x.1)) := blk_cell HC.out 0
              have c1 : _ = some (Value.int .i32 (x.2.1)) := blk_cell HC.out 1
              have c2 : _ = some (Value.string x.2.2) := blk_cell HC.out 2
              have r0 := blk_frozen HC.out 0; have r1 := blk_frozen HC.out 1; have r2 := blk_frozen HC.out 2
              as_aux_lemma =>
                go_wp2
                go_loopw [6, 8, 9] (fun p a sh wi => ∃ (i : Nat) (X : Int), q + i ≤ zs.length ∧ i ≤ 10 ∧ p = .int .i64 ((q + i : Nat) : Int) ∧ a = .int .u64 X ∧ sh = .int .u64 ((7 * i : Nat) : Int) ∧ Aside0 (rv 0 0 (zs.drop (q)) = rv i X (zs.drop (q + i))) ∧ wi = wr) (fun p _ _ _ => zs.length - (intOf p).toNat)
                case atStart => exact ⟨0, 0, by omega, by omega, by go_num, rfl, rfl, ⟨rfl⟩, rfl⟩
                case round =>
                  obtain ⟨i, X, hi, hi10, rfl, rfl, rfl, HI, rfl⟩ := hrel
                  have h10 : i ≠ 10 := fun e => by subst e; have := HV0.out.symm.trans (HI.out.trans (rv_ten' _ _)); simp at this
                  have t1 : ((64 : Int) ≤ ((7 * i : Nat) : Int)) = False := eq_false (by omega)
                  have hlt2 : q + i < zs.length := by
                    rcases Nat.lt_or_ge (q + i) zs.length with h | h
                    · exact h
                    · have := HV0.out.symm.trans (HI.out.trans (by rw [List.drop_eq_nil_of_le h, rv_nil])); simp at this
                  have t2 : ((zs.length : Int) ≤ ((q + i : Nat) : Int)) = False := eq_false (by omega)
                  have hx := HBy.out (q + i) hlt2
                  have hr1 := HR.out (q + i)
                  have hmask := mask8 hr1.1 hr1.2
                  by_cases h128 : zs.getD (q + i) 0 < 128
                  · have he := HV0.out.symm.trans (HI.out.trans (rv_last hlt2 h10 h128))
                    injection he with he; injection he with he1 he2
                    have HA1 := Aside0.mk he1
                    clear he1
                    generalize hc : zs.getD (q + i) 0 = c at hx hr1 h128 hmask HA1
                    have he3 : bits .or .u64 X (IntKind.u64.wrap (c % 128 * 2 ^ (7 * i))) = v := HA1.out.symm
                    have e32 := E32.out
                    have HK := Aside0.mk he2
                    clear hc HA1 he2
                    go_wp2
                    clear hx hr1 h128 hmask he3 t1 t2
                    go_loopw [6, 15] (fun p sh wi => ∃ (i : Nat) (X : Int), q + k + i ≤ zs.length ∧ i ≤ 10 ∧ p = .int .i64 ((q + k + i : Nat) : Int) ∧ sh = .int .u64 ((7 * i : Nat) : Int) ∧ Aside0 (rv 0 0 (zs.drop (q + k)) = rv i X (zs.drop (q + k + i))) ∧ Aside0 (wi.heap[g]? = some (cellsM (x.1, wrap32 X, x.2.2))) ∧ Aside0 (w.grownBy wi (some g))) (fun p _ _ => zs.length - (intOf p).toNat)
                    case atStart => exact ⟨0, 0, by omega, by omega, (by have := HK.out; simp; omega), rfl, ⟨rfl⟩, ⟨blk_put HC.out 1 _ (by rw [IntWalk.wrap32_in 0 ⟨by decide, by decide⟩]; rfl)⟩, ⟨HG.out.trans (grown_set _ _ _ _)⟩⟩
                    case round =>
                      obtain ⟨i, X, hi, hi10, rfl, rfl, HI, HCi, HGi⟩ := hrel
                      have HGE := Aside0.mk (HE.out.grown HGi.out hg3)
                      have HBy := Aside0.mk (HZ.out.grown HGi.out hbg)
                      have c0 : _ = some (Value.int .i64 (x.1)) := blk_cell HCi.out 0
                      have c1 : _ = some (Value.int .i32 (wrap32 X)) := blk_cell HCi.out 1
                      have c2 : _ = some (Value.string x.2.2) := blk_cell HCi.out 2
                      have r0 := blk_frozen HCi.out 0; have r1 := blk_frozen HCi.out 1; have r2 := blk_frozen HCi.out 2
                      have h10 : i ≠ 10 := fun e => by subst e; have := HV2.out.symm.trans (HI.out.trans (rv_ten' _ _)); simp at this
                      have t1 : ((64 : Int) ≤ ((7 * i : Nat) : Int)) = False := eq_false (by omega)
                      have hlt2 : q + k + i < zs.length := by
                        rcases Nat.lt_or_ge (q + k + i) zs.length with h | h
                        · exact h
                        · have := HV2.out.symm.trans (HI.out.trans (by rw [List.drop_eq_nil_of_le h, rv_nil])); simp at this
                      have t2 : ((zs.length : Int) ≤ ((q + k + i : Nat) : Int)) = False := eq_false (by omega)
                      have hx := HBy.out (q + k + i) hlt2
                      have hr1 := HR.out (q + k + i)
                      have hmask := mask8 hr1.1 hr1.2
                      by_cases h128 : zs.getD (q + k + i) 0 < 128
                      · have he := HV2.out.symm.trans (HI.out.trans (rv_last hlt2 h10 h128))
                        injection he with he; injection he with he1 he2
                        have hor := or32 X i _ hr1.1 hr1.2
                        have hsh := shift32 (zs.getD (q + k + i) 0) i
                        rw [← he1] at hor
                        have HJ := Aside0.mk he2
                        clear he1 he2
                        generalize hc : zs.getD (q + k + i) 0 = c at hx hr1 h128 hmask hor hsh
                        clear hc
                        go_wp2
                        go_roundw
                        case rel => exact ⟨q + (k + j), _, m, by omega, (by have := HJ.out; simp; omega), by omega, HEQ, ⟨blk_put HCi.out 1 _ rfl⟩, ⟨HGi.out.trans (grown_set _ _ _ _)⟩⟩
                        case measure => have := HJ.out; simp [intOf]; omega
                      · have HM := Aside0.mk (HI.out.trans (rv_more hlt2 h10 h128))
                        have hor := or32 X i _ hr1.1 hr1.2
                        have hsh := shift32 (zs.getD (q + k + i) 0) i
                        generalize hc : zs.getD (q + k + i) 0 = c at hx hr1 h128 hmask hor hsh HM
                        clear hc
                        go_wp2
                        go_roundw
                        case rel => exact ⟨i + 1, _, by omega, by omega, by go_num, by go_num, ⟨HM.out⟩, ⟨blk_put HCi.out 1 _ rfl⟩, ⟨HGi.out.trans (grown_set _ _ _ _)⟩⟩
                        case measure => simp [intOf]; omega
                  · have HM := Aside0.mk (HI.out.trans (rv_more hlt2 h10 h128))
                    generalize hc : zs.getD (q + i) 0 = c at hx hr1 h128 hmask HM
                    clear hc
                    go_wp2
                    go_roundw
                    case rel => exact ⟨i + 1, _, by omega, by omega, by go_num, rfl, by go_num, ⟨HM.out⟩, (by first | rfl | trivial)⟩
                    case measure => simp [intOf]; omega
          · have g3 : 3 < v / 8 := by omega
            rcases hv2 : rv 0 0 ((zs.drop q).drop k) with _ | ⟨n, j⟩
            ·
              have HBAD : Aside0 (all (zs.length + 1) zs x0' = .bad) := ⟨HV.out.trans (by rw [HF.out, fldN, hv2])⟩
              clear HV HF q7
              have HS := Aside0.mk (by have h := skip_num_bad b (A + q) (cp - q) (zs.drop q) wr (HBy.out.tail q) (HR.out.drop q) (by rw [List.length_drop]; omega) v k HV0.out hK0 hv2 HGE.out; simp only [List.length_drop] at h; exact h)
              have zq : (cp = q) = False := eq_false (by omega)
              have zq2 : ((q : Int) ≤ (zs.length : Int)) = True := eq_true (by omega)
              have zq3 : (q ≤ zs.length) = True := eq_true (by omega)
              have bk0 : (v % 8 == 0) = true := beq_iff_eq.2 (by omega)
              have bk1 : (v % 8 == 1) = false := beq_eq_false_iff_ne.2 (by omega)
              have bk2 : (v % 8 == 2) = false := beq_eq_false_iff_ne.2 (by omega)
              have bk3 : (v % 8 == 3) = false := beq_eq_false_iff_ne.2 (by omega)
              have bk4 : (v % 8 == 4) = false := beq_eq_false_iff_ne.2 (by omega)
              have bk5 : (v % 8 == 5) = false := beq_eq_false_iff_ne.2 (by omega)
              have bf1 : (v / 8 == 1) = false := beq_eq_false_iff_ne.2 (by omega)
              have bf2 : (v / 8 == 2) = false := beq_eq_false_iff_ne.2 (by omega)
              have bf3 : (v / 8 == 3) = false := beq_eq_false_iff_ne.2 (by omega)
              as_aux_lemma =>
                go_wp2
                go_loopw [6, 8, 9] (fun p a sh wi => ∃ (i : Nat) (X : Int), q + i ≤ zs.length ∧ i ≤ 10 ∧ p = .int .i64 ((q + i : Nat) : Int) ∧ a = .int .u64 X ∧ sh = .int .u64 ((7 * i : Nat) : Int) ∧ Aside0 (rv 0 0 (zs.drop (q)) = rv i X (zs.drop (q + i))) ∧ wi = wr) (fun p _ _ _ => zs.length - (intOf p).toNat)
                case atStart => exact ⟨0, 0, by omega, by omega, by go_num, rfl, rfl, ⟨rfl⟩, rfl⟩
                case round =>
                  obtain ⟨i, X, hi, hi10, rfl, rfl, rfl, HI, rfl⟩ := hrel
                  have h10 : i ≠ 10 := fun e => by subst e; have := HV0.out.symm.trans (HI.out.trans (rv_ten' _ _)); simp at this
                  have t1 : ((64 : Int) ≤ ((7 * i : Nat) : Int)) = False := eq_false (by omega)
                  have hlt2 : q + i < zs.length := by
                    rcases Nat.lt_or_ge (q + i) zs.length with h | h
                    · exact h
                    · have := HV0.out.symm.trans (HI.out.trans (by rw [List.drop_eq_nil_of_le h, rv_nil])); simp at this
                  have t2 : ((zs.length : Int) ≤ ((q + i : Nat) : Int)) = False := eq_false (by omega)
                  have hx := HBy.out (q + i) hlt2
                  have hr1 := HR.out (q + i)
                  have hmask := mask8 hr1.1 hr1.2
                  by_cases h128 : zs.getD (q + i) 0 < 128
                  · have he := HV0.out.symm.trans (HI.out.trans (rv_last hlt2 h10 h128))
                    injection he with he; injection he with he1 he2
                    have HA1 := Aside0.mk he1
                    clear he1
                    generalize hc : zs.getD (q + i) 0 = c at hx hr1 h128 hmask HA1
                    have he3 : bits .or .u64 X (IntKind.u64.wrap (c % 128 * 2 ^ (7 * i))) = v := HA1.out.symm
                    have e32 := E32.out
                    clear hc HA1 he2
                    go_wp2_with (go_at_call 30; (with_reducible refine (HS.out).mono ?_); rintro e w1 ⟨⟨t, u, rfl⟩, hb⟩; have HN := Aside0.mk hb; obtain ⟨e0, p0, e1, p1, e2, p2, g0, g1, g2⟩ := HGE.out.below hb; clear hb e32)
                    repeat (go_quiet (fail); try go_wp2)
                    go_ret
                    exact ⟨by first | exact HG.out.trans (grown_of_below HN.out _) | (exact (HG.out.trans (grown_of_below HN.out _)).trans ⟨rfl, rfl, rfl, Nat.le_refl _, fun _ _ _ => rfl⟩), .inl ⟨HBAD.out, _, _, rfl⟩⟩
                  · have HM := Aside0.mk (HI.out.trans (rv_more hlt2 h10 h128))
                    generalize hc : zs.getD (q + i) 0 = c at hx hr1 h128 hmask HM
                    clear hc
                    go_wp2
                    go_roundw
                    case rel => exact ⟨i + 1, _, by omega, by omega, by go_num, rfl, by go_num, ⟨HM.out⟩, (by first | rfl | trivial)⟩
                    case measure => simp [intOf]; omega
            · obtain ⟨⟨m0, m1⟩, j0, j1⟩ := rv_range ((zs.drop q).drop k) 0 0 n j hv2
              rw [List.length_drop, List.length_drop] at j1
              obtain ⟨N, hN⟩ : ∃ N : Nat, N = k + j := ⟨_, rfl⟩
              have HS := Aside0.mk (by have h := skip_num b (A + q) (cp - q) (zs.drop q) wr (HBy.out.tail q) (HR.out.drop q) (by rw [List.length_drop]; omega) v k HV0.out hK0 n j hv2; simp only [List.length_drop] at h; exact h)
              rw [← hN] at HS
              have HEQ : Aside0 (all (zs.length + 1) zs x0' = all m (zs.drop (q + N)) x) := ⟨HV.out.trans (by rw [HF.out, fldN_some hv2, if_neg (by omega), if_neg (by omega), hN]; simp only [List.drop_drop])⟩
              clear HV HF q7 hv2
              have zq : (cp = q) = False := eq_false (by omega)
              have zq2 : ((q : Int) ≤ (zs.length : Int)) = True := eq_true (by omega)
              have zq3 : (q ≤ zs.length) = True := eq_true (by omega)
              have t5 : ((N : Int) < 0) = False := eq_false (by omega)
              have E5 : Aside0 (wrap64 ((q : Int) + (N : Int)) = (q : Int) + (N : Int)) := ⟨IntWalk.wrap64_in _ ⟨by omega, by omega⟩⟩
              have t6 : ((q : Int) + (N : Int) < 0) = False := eq_false (by omega)
              have t7 : ((zs.length : Int) < (q : Int) + (N : Int)) = False := eq_false (by omega)
              have HLE := Aside0.mk (show q + N ≤ zs.length ∧ 0 < N by omega)
              have bk0 : (v % 8 == 0) = true := beq_iff_eq.2 (by omega)
              have bk1 : (v % 8 == 1) = false := beq_eq_false_iff_ne.2 (by omega)
              have bk2 : (v % 8 == 2) = false := beq_eq_false_iff_ne.2 (by omega)
              have bk3 : (v % 8 == 3) = false := beq_eq_false_iff_ne.2 (by omega)
              have bk4 : (v % 8 == 4) = false := beq_eq_false_iff_ne.2 (by omega)
              have bk5 : (v % 8 == 5) = false := beq_eq_false_iff_ne.2 (by omega)
              have bf1 : (v / 8 == 1) = false := beq_eq_false_iff_ne.2 (by omega)
              have bf2 : (v / 8 == 2) = false := beq_eq_false_iff_ne.2 (by omega)
              have bf3 : (v / 8 == 3) = false := beq_eq_false_iff_ne.2 (by omega)
              as_aux_lemma =>
                go_wp2
                go_loopw [6, 8, 9] (fun p a sh wi => ∃ (i : Nat) (X : Int), q + i ≤ zs.length ∧ i ≤ 10 ∧ p = .int .i64 ((q + i : Nat) : Int) ∧ a = .int .u64 X ∧ sh = .int .u64 ((7 * i : Nat) : Int) ∧ Aside0 (rv 0 0 (zs.drop (q)) = rv i X (zs.drop (q + i))) ∧ wi = wr) (fun p _ _ _ => zs.length - (intOf p).toNat)
                case atStart => exact ⟨0, 0, by omega, by omega, by go_num, rfl, rfl, ⟨rfl⟩, rfl⟩
                case round =>
                  obtain ⟨i, X, hi, hi10, rfl, rfl, rfl, HI, rfl⟩ := hrel
                  have h10 : i ≠ 10 := fun e => by subst e; have := HV0.out.symm.trans (HI.out.trans (rv_ten' _ _)); simp at this
                  have t1 : ((64 : Int) ≤ ((7 * i : Nat) : Int)) = False := eq_false (by omega)
                  have hlt2 : q + i < zs.length := by
                    rcases Nat.lt_or_ge (q + i) zs.length with h | h
                    · exact h
                    · have := HV0.out.symm.trans (HI.out.trans (by rw [List.drop_eq_nil_of_le h, rv_nil])); simp at this
                  have t2 : ((zs.length : Int) ≤ ((q + i : Nat) : Int)) = False := eq_false (by omega)
                  have hx := HBy.out (q + i) hlt2
                  have hr1 := HR.out (q + i)
                  have hmask := mask8 hr1.1 hr1.2
                  by_cases h128 : zs.getD (q + i) 0 < 128
                  · have he := HV0.out.symm.trans (HI.out.trans (rv_last hlt2 h10 h128))
                    injection he with he; injection he with he1 he2
                    have HA1 := Aside0.mk he1
                    clear he1
                    generalize hc : zs.getD (q + i) 0 = c at hx hr1 h128 hmask HA1
                    have he3 : bits .or .u64 X (IntKind.u64.wrap (c % 128 * 2 ^ (7 * i))) = v := HA1.out.symm
                    have e32 := E32.out
                    clear hc HA1 he2
                    go_wp2_with (go_at_call 30; (with_reducible refine (HS.out).mono ?_); rintro e w1 ⟨rfl, hb⟩; have HN := Aside0.mk hb; obtain ⟨e0, p0, e1, p1, e2, p2, g0, g1, g2⟩ := HGE.out.below hb; clear hb e32; have e5 := E5.out; have HN0 := Aside0.mk hN; clear hN)
                    clear e5
                    go_roundw
                    case rel => exact ⟨q + N, x, m, (by have := HLE.out; omega), (by rw [E5.out]; first | rfl | go_num), (by have := HLE.out; omega), HEQ, ⟨blk_below HC.out HN.out⟩, ⟨HG.out.trans (grown_of_below HN.out _)⟩⟩
                    case measure => exact less_of HLE.out hlt E5.out
                  · have HM := Aside0.mk (HI.out.trans (rv_more hlt2 h10 h128))
                    generalize hc : zs.getD (q + i) 0 = c at hx hr1 h128 hmask HM
                    clear hc
                    go_wp2
                    go_roundw
                    case rel => exact ⟨i + 1, _, by omega, by omega, by go_num, rfl, by go_num, ⟨HM.out⟩, (by first | rfl | trivial)⟩
                    case measure => simp [intOf]; omega
        have HF := Aside0.mk (HF.out.trans (if_neg hK0))
        by_cases hK1 : v % 8 = 1
        · have HF := Aside0.mk (HF.out.trans (if_pos hK1))
          have g3 : 3 < v / 8 := by omega
          by_cases h8 : ((8 : Int)) ≤ (((zs.drop q).length - k : Nat) : Int)
          ·
            have h9 := h8
            rw [List.length_drop] at h9
            obtain ⟨N, hN⟩ : ∃ N : Nat, N = k + 8 := ⟨_, rfl⟩
            have HS := Aside0.mk (by have h := skip_one b (A + q) (cp - q) (zs.drop q) wr (HBy.out.tail q) (HR.out.drop q) (by rw [List.length_drop]; omega) v k HV0.out hK1; simp only [List.length_drop] at h; exact h)
            rw [← hN] at HS
            have HEQ : Aside0 (all (zs.length + 1) zs x0' = all m (zs.drop (q + N)) x) := ⟨HV.out.trans (by rw [HF.out, if_pos h8, hN]; simp only [List.drop_drop])⟩
            clear HV HF q7 h8
            have zq : (cp = q) = False := eq_false (by omega)
            have zq2 : ((q : Int) ≤ (zs.length : Int)) = True := eq_true (by omega)
            have zq3 : (q ≤ zs.length) = True := eq_true (by omega)
            have t5 : ((N : Int) < 0) = False := eq_false (by omega)
            have E5 : Aside0 (wrap64 ((q : Int) + (N : Int)) = (q : Int) + (N : Int)) := ⟨IntWalk.wrap64_in _ ⟨by omega, by omega⟩⟩
            have t6 : ((q : Int) + (N : Int) < 0) = False := eq_false (by omega)
            have t7 : ((zs.length : Int) < (q : Int) + (N : Int)) = False := eq_false (by omega)
            have HLE := Aside0.mk (show q + N ≤ zs.length ∧ 0 < N by omega)
            have bk0 : (v % 8 == 0) = false := beq_eq_false_iff_ne.2 (by omega)
            have bk1 : (v % 8 == 1) = true := beq_iff_eq.2 (by omega)
            have bk2 : (v % 8 == 2) = false := beq_eq_false_iff_ne.2 (by omega)
            have bk3 : (v % 8 == 3) = false := beq_eq_false_iff_ne.2 (by omega)
            have bk4 : (v % 8 == 4) = false := beq_eq_false_iff_ne.2 (by omega)
            have bk5 : (v % 8 == 5) = false := beq_eq_false_iff_ne.2 (by omega)
            have bf1 : (v / 8 == 1) = false := beq_eq_false_iff_ne.2 (by omega)
            have bf2 : (v / 8 == 2) = false := beq_eq_false_iff_ne.2 (by omega)
            have bf3 : (v / 8 == 3) = false := beq_eq_false_iff_ne.2 (by omega)
            as_aux_lemma =>
              go_wp2
              go_loopw [6, 8, 9] (fun p a sh wi => ∃ (i : Nat) (X : Int), q + i ≤ zs.length ∧ i ≤ 10 ∧ p = .int .i64 ((q + i : Nat) : Int) ∧ a = .int .u64 X ∧ sh = .int .u64 ((7 * i : Nat) : Int) ∧ Aside0 (rv 0 0 (zs.drop (q)) = rv i X (zs.drop (q + i))) ∧ wi = wr) (fun p _ _ _ => zs.length - (intOf p).toNat)
              case atStart => exact ⟨0, 0, by omega, by omega, by go_num, rfl, rfl, ⟨rfl⟩, rfl⟩
              case round =>
                obtain ⟨i, X, hi, hi10, rfl, rfl, rfl, HI, rfl⟩ := hrel
                have h10 : i ≠ 10 := fun e => by subst e; have := HV0.out.symm.trans (HI.out.trans (rv_ten' _ _)); simp at this
                have t1 : ((64 : Int) ≤ ((7 * i : Nat) : Int)) = False := eq_false (by omega)
                have hlt2 : q + i < zs.length := by
                  rcases Nat.lt_or_ge (q + i) zs.length with h | h
                  · exact h
                  · have := HV0.out.symm.trans (HI.out.trans (by rw [List.drop_eq_nil_of_le h, rv_nil])); simp at this
                have t2 : ((zs.length : Int) ≤ ((q + i : Nat) : Int)) = False := eq_false (by omega)
                have hx := HBy.out (q + i) hlt2
                have hr1 := HR.out (q + i)
                have hmask := mask8 hr1.1 hr1.2
                by_cases h128 : zs.getD (q + i) 0 < 128
                · have he := HV0.out.symm.trans (HI.out.trans (rv_last hlt2 h10 h128))
                  injection he with he; injection he with he1 he2
                  have HA1 := Aside0.mk he1
                  clear he1
                  generalize hc : zs.getD (q + i) 0 = c at hx hr1 h128 hmask HA1
                  have he3 : bits .or .u64 X (IntKind.u64.wrap (c % 128 * 2 ^ (7 * i))) = v := HA1.out.symm
                  have e32 := E32.out
                  clear hc HA1 he2
                  go_wp2_with (go_at_call 30; (with_reducible refine (HS.out).mono ?_); rintro e w1 ⟨rfl, hb⟩; have HN := Aside0.mk hb; obtain ⟨e0, p0, e1, p1, e2, p2, g0, g1, g2⟩ := HGE.out.below hb; clear hb e32; have e5 := E5.out; have HN0 := Aside0.mk hN; clear hN)
                  clear e5
                  go_roundw
                  case rel => exact ⟨q + N, x, m, (by have := HLE.out; omega), (by rw [E5.out]; first | rfl | go_num), (by have := HLE.out; omega), HEQ, ⟨blk_below HC.out HN.out⟩, ⟨HG.out.trans (grown_of_below HN.out _)⟩⟩
                  case measure => exact less_of HLE.out hlt E5.out
                · have HM := Aside0.mk (HI.out.trans (rv_more hlt2 h10 h128))
                  generalize hc : zs.getD (q + i) 0 = c at hx hr1 h128 hmask HM
                  clear hc
                  go_wp2
                  go_roundw
                  case rel => exact ⟨i + 1, _, by omega, by omega, by go_num, rfl, by go_num, ⟨HM.out⟩, (by first | rfl | trivial)⟩
                  case measure => simp [intOf]; omega
          ·
            have h9 := h8
            rw [List.length_drop] at h9
            obtain ⟨N, hN⟩ : ∃ N : Nat, N = k + 8 := ⟨_, rfl⟩
            have HS := Aside0.mk (by have h := skip_one b (A + q) (cp - q) (zs.drop q) wr (HBy.out.tail q) (HR.out.drop q) (by rw [List.length_drop]; omega) v k HV0.out hK1; simp only [List.length_drop] at h; exact h)
            rw [← hN] at HS
            have HBAD : Aside0 (all (zs.length + 1) zs x0' = .bad) := ⟨HV.out.trans (by rw [HF.out, if_neg h8])⟩
            clear HV HF q7 h8
            have zq : (cp = q) = False := eq_false (by omega)
            have zq2 : ((q : Int) ≤ (zs.length : Int)) = True := eq_true (by omega)
            have zq3 : (q ≤ zs.length) = True := eq_true (by omega)
            have t5 : ((N : Int) < 0) = False := eq_false (by omega)
            have E5 : Aside0 (wrap64 ((q : Int) + (N : Int)) = (q : Int) + (N : Int)) := ⟨IntWalk.wrap64_in _ ⟨by omega, by omega⟩⟩
            have t6 : ((q : Int) + (N : Int) < 0) = False := eq_false (by omega)
            have t7 : ((zs.length : Int) < (q : Int) + (N : Int)) = True := eq_true (by omega)
            have bk0 : (v % 8 == 0) = false := beq_eq_false_iff_ne.2 (by omega)
            have bk1 : (v % 8 == 1) = true := beq_iff_eq.2 (by omega)
            have bk2 : (v % 8 == 2) = false := beq_eq_false_iff_ne.2 (by omega)
            have bk3 : (v % 8 == 3) = false := beq_eq_false_iff_ne.2 (by omega)
            have bk4 : (v % 8 == 4) = false := beq_eq_false_iff_ne.2 (by omega)
            have bk5 : (v % 8 == 5) = false := beq_eq_false_iff_ne.2 (by omega)
            have bf1 : (v / 8 == 1) = false := beq_eq_false_iff_ne.2 (by omega)
            have bf2 : (v / 8 == 2) = false := beq_eq_false_iff_ne.2 (by omega)
            have bf3 : (v / 8 == 3) = false := beq_eq_false_iff_ne.2 (by omega)
            as_aux_lemma =>
              go_wp2
              go_loopw [6, 8, 9] (fun p a sh wi => ∃ (i : Nat) (X : Int), q + i ≤ zs.length ∧ i ≤ 10 ∧ p = .int .i64 ((q + i : Nat) : Int) ∧ a = .int .u64 X ∧ sh = .int .u64 ((7 * i : Nat) : Int) ∧ Aside0 (rv 0 0 (zs.drop (q)) = rv i X (zs.drop (q + i))) ∧ wi = wr) (fun p _ _ _ => zs.length - (intOf p).toNat)
              case atStart => exact ⟨0, 0, by omega, by omega, by go_num, rfl, rfl, ⟨rfl⟩, rfl⟩
              case round =>
                obtain ⟨i, X, hi, hi10, rfl, rfl, rfl, HI, rfl⟩ := hrel
                have h10 : i ≠ 10 := fun e => by subst e; have := HV0.out.symm.trans (HI.out.trans (rv_ten' _ _)); simp at this
                have t1 : ((64 : Int) ≤ ((7 * i : Nat) : Int)) = False := eq_false (by omega)
                have hlt2 : q + i < zs.length := by
                  rcases Nat.lt_or_ge (q + i) zs.length with h | h
                  · exact h
                  · have := HV0.out.symm.trans (HI.out.trans (by rw [List.drop_eq_nil_of_le h, rv_nil])); simp at this
                have t2 : ((zs.length : Int) ≤ ((q + i : Nat) : Int)) = False := eq_false (by omega)
                have hx := HBy.out (q + i) hlt2
                have hr1 := HR.out (q + i)
                have hmask := mask8 hr1.1 hr1.2
                by_cases h128 : zs.getD (q + i) 0 < 128
                · have he := HV0.out.symm.trans (HI.out.trans (rv_last hlt2 h10 h128))
                  injection he with he; injection he with he1 he2
                  have HA1 := Aside0.mk he1
                  clear he1
                  generalize hc : zs.getD (q + i) 0 = c at hx hr1 h128 hmask HA1
                  have he3 : bits .or .u64 X (IntKind.u64.wrap (c % 128 * 2 ^ (7 * i))) = v := HA1.out.symm
                  have e32 := E32.out
                  clear hc HA1 he2
                  go_wp2_with (go_at_call 30; (with_reducible refine (HS.out).mono ?_); rintro e w1 ⟨rfl, hb⟩; have HN := Aside0.mk hb; obtain ⟨e0, p0, e1, p1, e2, p2, g0, g1, g2⟩ := HGE.out.below hb; clear hb e32; have e5 := E5.out; have HN0 := Aside0.mk hN; clear hN)
                  repeat (go_quiet (fail); try go_wp2)
                  go_ret
                  exact ⟨by first | exact HG.out.trans (grown_of_below HN.out _) | (exact (HG.out.trans (grown_of_below HN.out _)).trans ⟨rfl, rfl, rfl, Nat.le_refl _, fun _ _ _ => rfl⟩), .inl ⟨HBAD.out, _, _, rfl⟩⟩
                · have HM := Aside0.mk (HI.out.trans (rv_more hlt2 h10 h128))
                  generalize hc : zs.getD (q + i) 0 = c at hx hr1 h128 hmask HM
                  clear hc
                  go_wp2
                  go_roundw
                  case rel => exact ⟨i + 1, _, by omega, by omega, by go_num, rfl, by go_num, ⟨HM.out⟩, (by first | rfl | trivial)⟩
                  case measure => simp [intOf]; omega
        have HF := Aside0.mk (HF.out.trans (if_neg hK1))
        by_cases hK5 : v % 8 = 5
        · have HF := Aside0.mk (HF.out.trans (if_pos hK5))
          have g3 : 3 < v / 8 := by omega
          by_cases h8 : ((4 : Int)) ≤ (((zs.drop q).length - k : Nat) : Int)
          ·
            have h9 := h8
            rw [List.length_drop] at h9
            obtain ⟨N, hN⟩ : ∃ N : Nat, N = k + 4 := ⟨_, rfl⟩
            have HS := Aside0.mk (by have h := skip_five b (A + q) (cp - q) (zs.drop q) wr (HBy.out.tail q) (HR.out.drop q) (by rw [List.length_drop]; omega) v k HV0.out hK5; simp only [List.length_drop] at h; exact h)
            rw [← hN] at HS
            have HEQ : Aside0 (all (zs.length + 1) zs x0' = all m (zs.drop (q + N)) x) := ⟨HV.out.trans (by rw [HF.out, if_pos h8, hN]; simp only [List.drop_drop])⟩
            clear HV HF q7 h8
            have zq : (cp = q) = False := eq_false (by omega)
            have zq2 : ((q : Int) ≤ (zs.length : Int)) = True := eq_true (by omega)
            have zq3 : (q ≤ zs.length) = True := eq_true (by omega)
            have t5 : ((N : Int) < 0) = False := eq_false (by omega)
            have E5 : Aside0 (wrap64 ((q : Int) + (N : Int)) = (q : Int) + (N : Int)) := ⟨IntWalk.wrap64_in _ ⟨by omega, by omega⟩⟩
            have t6 : ((q : Int) + (N : Int) < 0) = False := eq_false (by omega)
            have t7 : ((zs.length : Int) < (q : Int) + (N : Int)) = False := eq_false (by omega)
            have HLE := Aside0.mk (show q + N ≤ zs.length ∧ 0 < N by omega)
            have bk0 : (v % 8 == 0) = false := beq_eq_false_iff_ne.2 (by omega)
            have bk1 : (v % 8 == 1) = false := beq_eq_false_iff_ne.2 (by omega)
            have bk2 : (v % 8 == 2) = false := beq_eq_false_iff_ne.2 (by omega)
            have bk3 : (v % 8 == 3) = false := beq_eq_false_iff_ne.2 (by omega)
            have bk4 : (v % 8 == 4) = false := beq_eq_false_iff_ne.2 (by omega)
            have bk5 : (v % 8 == 5) = true := beq_iff_eq.2 (by omega)
            have bf1 : (v / 8 == 1) = false := beq_eq_false_iff_ne.2 (by omega)
            have bf2 : (v / 8 == 2) = false := beq_eq_false_iff_ne.2 (by omega)
            have bf3 : (v / 8 == 3) = false := beq_eq_false_iff_ne.2 (by omega)
            as_aux_lemma =>
              go_wp2
              go_loopw [6, 8, 9] (fun p a sh wi => ∃ (i : Nat) (X : Int), q + i ≤ zs.length ∧ i ≤ 10 ∧ p = .int .i64 ((q + i : Nat) : Int) ∧ a = .int .u64 X ∧ sh = .int .u64 ((7 * i : Nat) : Int) ∧ Aside0 (rv 0 0 (zs.drop (q)) = rv i X (zs.drop (q + i))) ∧ wi = wr) (fun p _ _ _ => zs.length - (intOf p).toNat)
              case atStart => exact ⟨0, 0, by omega, by omega, by go_num, rfl, rfl, ⟨rfl⟩, rfl⟩
              case round =>
                obtain ⟨i, X, hi, hi10, rfl, rfl, rfl, HI, rfl⟩ := hrel
                have h10 : i ≠ 10 := fun e => by subst e; have := HV0.out.symm.trans (HI.out.trans (rv_ten' _ _)); simp at this
                have t1 : ((64 : Int) ≤ ((7 * i : Nat) : Int)) = False := eq_false (by omega)
                have hlt2 : q + i < zs.length := by
                  rcases Nat.lt_or_ge (q + i) zs.length with h | h
                  · exact h
                  · have := HV0.out.symm.trans (HI.out.trans (by rw [List.drop_eq_nil_of_le h, rv_nil])); simp at this
                have t2 : ((zs.length : Int) ≤ ((q + i : Nat) : Int)) = False := eq_false (by omega)
                have hx := HBy.out (q + i) hlt2
                have hr1 := HR.out (q + i)
                have hmask := mask8 hr1.1 hr1.2
                by_cases h128 : zs.getD (q + i) 0 < 128
                · have he := HV0.out.symm.trans (HI.out.trans (rv_last hlt2 h10 h128))
                  injection he with he; injection he with he1 he2
                  have HA1 := Aside0.mk he1
                  clear he1
                  generalize hc : zs.getD (q + i) 0 = c at hx hr1 h128 hmask HA1
                  have he3 : bits .or .u64 X (IntKind.u64.wrap (c % 128 * 2 ^ (7 * i))) = v := HA1.out.symm
                  have e32 := E32.out
                  clear hc HA1 he2
                  go_wp2_with (go_at_call 30; (with_reducible refine (HS.out).mono ?_); rintro e w1 ⟨rfl, hb⟩; have HN := Aside0.mk hb; obtain ⟨e0, p0, e1, p1, e2, p2, g0, g1, g2⟩ := HGE.out.below hb; clear hb e32; have e5 := E5.out; have HN0 := Aside0.mk hN; clear hN)
                  clear e5
                  go_roundw
                  case rel => exact ⟨q + N, x, m, (by have := HLE.out; omega), (by rw [E5.out]; first | rfl | go_num), (by have := HLE.out; omega), HEQ, ⟨blk_below HC.out HN.out⟩, ⟨HG.out.trans (grown_of_below HN.out _)⟩⟩
                  case measure => exact less_of HLE.out hlt E5.out
                · have HM := Aside0.mk (HI.out.trans (rv_more hlt2 h10 h128))
                  generalize hc : zs.getD (q + i) 0 = c at hx hr1 h128 hmask HM
                  clear hc
                  go_wp2
                  go_roundw
                  case rel => exact ⟨i + 1, _, by omega, by omega, by go_num, rfl, by go_num, ⟨HM.out⟩, (by first | rfl | trivial)⟩
                  case measure => simp [intOf]; omega
          ·
            have h9 := h8
            rw [List.length_drop] at h9
            obtain ⟨N, hN⟩ : ∃ N : Nat, N = k + 4 := ⟨_, rfl⟩
            have HS := Aside0.mk (by have h := skip_five b (A + q) (cp - q) (zs.drop q) wr (HBy.out.tail q) (HR.out.drop q) (by rw [List.length_drop]; omega) v k HV0.out hK5; simp only [List.length_drop] at h; exact h)
            rw [← hN] at HS
            have HBAD : Aside0 (all (zs.length + 1) zs x0' = .bad) := ⟨HV.out.trans (by rw [HF.out, if_neg h8])⟩
            clear HV HF q7 h8
            have zq : (cp = q) = False := eq_false (by omega)
            have zq2 : ((q : Int) ≤ (zs.length : Int)) = True := eq_true (by omega)
            have zq3 : (q ≤ zs.length) = True := eq_true (by omega)
            have t5 : ((N : Int) < 0) = False := eq_false (by omega)
            have E5 : Aside0 (wrap64 ((q : Int) + (N : Int)) = (q : Int) + (N : Int)) := ⟨IntWalk.wrap64_in _ ⟨by omega, by omega⟩⟩
            have t6 : ((q : Int) + (N : Int) < 0) = False := eq_false (by omega)
            have t7 : ((zs.length : Int) < (q : Int) + (N : Int)) = True := eq_true (by omega)
            have bk0 : (v % 8 == 0) = false := beq_eq_false_iff_ne.2 (by omega)
            have bk1 : (v % 8 == 1) = false := beq_eq_false_iff_ne.2 (by omega)
            have bk2 : (v % 8 == 2) = false := beq_eq_false_iff_ne.2 (by omega)
            have bk3 : (v % 8 == 3) = false := beq_eq_false_iff_ne.2 (by omega)
            have bk4 : (v % 8 == 4) = false := beq_eq_false_iff_ne.2 (by omega)
            have bk5 : (v % 8 == 5) = true := beq_iff_eq.2 (by omega)
            have bf1 : (v / 8 == 1) = false := beq_eq_false_iff_ne.2 (by omega)
            have bf2 : (v / 8 == 2) = false := beq_eq_false_iff_ne.2 (by omega)
            have bf3 : (v / 8 == 3) = false := beq_eq_false_iff_ne.2 (by omega)
            as_aux_lemma =>
              go_wp2
              go_loopw [6, 8, 9] (fun p a sh wi => ∃ (i : Nat) (X : Int), q + i ≤ zs.length ∧ i ≤ 10 ∧ p = .int .i64 ((q + i : Nat) : Int) ∧ a = .int .u64 X ∧ sh = .int .u64 ((7 * i : Nat) : Int) ∧ Aside0 (rv 0 0 (zs.drop (q)) = rv i X (zs.drop (q + i))) ∧ wi = wr) (fun p _ _ _ => zs.length - (intOf p).toNat)
              case atStart => exact ⟨0, 0, by omega, by omega, by go_num, rfl, rfl, ⟨rfl⟩, rfl⟩
              case round =>
                obtain ⟨i, X, hi, hi10, rfl, rfl, rfl, HI, rfl⟩ := hrel
                have h10 : i ≠ 10 := fun e => by subst e; have := HV0.out.symm.trans (HI.out.trans (rv_ten' _ _)); simp at this
                have t1 : ((64 : Int) ≤ ((7 * i : Nat) : Int)) = False := eq_false (by omega)
                have hlt2 : q + i < zs.length := by
                  rcases Nat.lt_or_ge (q + i) zs.length with h | h
                  · exact h
                  · have := HV0.out.symm.trans (HI.out.trans (by rw [List.drop_eq_nil_of_le h, rv_nil])); simp at this
                have t2 : ((zs.length : Int) ≤ ((q + i : Nat) : Int)) = False := eq_false (by omega)
                have hx := HBy.out (q + i) hlt2
                have hr1 := HR.out (q + i)
                have hmask := mask8 hr1.1 hr1.2
                by_cases h128 : zs.getD (q + i) 0 < 128
                · have he := HV0.out.symm.trans (HI.out.trans (rv_last hlt2 h10 h128))
                  injection he with he; injection he with he1 he2
                  have HA1 := Aside0.mk he1
                  clear he1
                  generalize hc : zs.getD (q + i) 0 = c at hx hr1 h128 hmask HA1
                  have he3 : bits .or .u64 X (IntKind.u64.wrap (c % 128 * 2 ^ (7 * i))) = v := HA1.out.symm
                  have e32 := E32.out
                  clear hc HA1 he2
                  go_wp2_with (go_at_call 30; (with_reducible refine (HS.out).mono ?_); rintro e w1 ⟨rfl, hb⟩; have HN := Aside0.mk hb; obtain ⟨e0, p0, e1, p1, e2, p2, g0, g1, g2⟩ := HGE.out.below hb; clear hb e32; have e5 := E5.out; have HN0 := Aside0.mk hN; clear hN)
                  repeat (go_quiet (fail); try go_wp2)
                  go_ret
                  exact ⟨by first | exact HG.out.trans (grown_of_below HN.out _) | (exact (HG.out.trans (grown_of_below HN.out _)).trans ⟨rfl, rfl, rfl, Nat.le_refl _, fun _ _ _ => rfl⟩), .inl ⟨HBAD.out, _, _, rfl⟩⟩
                · have HM := Aside0.mk (HI.out.trans (rv_more hlt2 h10 h128))
                  generalize hc : zs.getD (q + i) 0 = c at hx hr1 h128 hmask HM
                  clear hc
                  go_wp2
                  go_roundw
                  case rel => exact ⟨i + 1, _, by omega, by omega, by go_num, rfl, by go_num, ⟨HM.out⟩, (by first | rfl | trivial)⟩
                  case measure => simp [intOf]; omega
        have HF := Aside0.mk (HF.out.trans (if_neg hK5))
        have hK2 : v % 8 = 2 := by omega
        rcases Int.lt_or_le 3 (v / 8) with g3 | g3
        · rcases hv2 : rv 0 0 ((zs.drop q).drop k) with _ | ⟨n, j⟩
          ·
            have HBAD : Aside0 (all (zs.length + 1) zs x0' = .bad) := ⟨HV.out.trans (by rw [HF.out, fldS, hv2])⟩
            clear HV HF q7
            have HS := Aside0.mk (by have h := skip_txt_bad b (A + q) (cp - q) (zs.drop q) wr (HBy.out.tail q) (HR.out.drop q) (by rw [List.length_drop]; omega) v k HV0.out hK2 hv2 HGE.out; simp only [List.length_drop] at h; exact h)
            have zq : (cp = q) = False := eq_false (by omega)
            have zq2 : ((q : Int) ≤ (zs.length : Int)) = True := eq_true (by omega)
            have zq3 : (q ≤ zs.length) = True := eq_true (by omega)
            have bk0 : (v % 8 == 0) = false := beq_eq_false_iff_ne.2 (by omega)
            have bk1 : (v % 8 == 1) = false := beq_eq_false_iff_ne.2 (by omega)
            have bk2 : (v % 8 == 2) = true := beq_iff_eq.2 (by omega)
            have bk3 : (v % 8 == 3) = false := beq_eq_false_iff_ne.2 (by omega)
            have bk4 : (v % 8 == 4) = false := beq_eq_false_iff_ne.2 (by omega)
            have bk5 : (v % 8 == 5) = false := beq_eq_false_iff_ne.2 (by omega)
            have bf1 : (v / 8 == 1) = false := beq_eq_false_iff_ne.2 (by omega)
            have bf2 : (v / 8 == 2) = false := beq_eq_false_iff_ne.2 (by omega)
            have bf3 : (v / 8 == 3) = false := beq_eq_false_iff_ne.2 (by omega)
            as_aux_lemma =>
              go_wp2
              go_loopw [6, 8, 9] (fun p a sh wi => ∃ (i : Nat) (X : Int), q + i ≤ zs.length ∧ i ≤ 10 ∧ p = .int .i64 ((q + i : Nat) : Int) ∧ a = .int .u64 X ∧ sh = .int .u64 ((7 * i : Nat) : Int) ∧ Aside0 (rv 0 0 (zs.drop (q)) = rv i X (zs.drop (q + i))) ∧ wi = wr) (fun p _ _ _ => zs.length - (intOf p).toNat)
              case atStart => exact ⟨0, 0, by omega, by omega, by go_num, rfl, rfl, ⟨rfl⟩, rfl⟩
              case round =>
                obtain ⟨i, X, hi, hi10, rfl, rfl, rfl, HI, rfl⟩ := hrel
                have h10 : i ≠ 10 := fun e => by subst e; have := HV0.out.symm.trans (HI.out.trans (rv_ten' _ _)); simp at this
                have t1 : ((64 : Int) ≤ ((7 * i : Nat) : Int)) = False := eq_false (by omega)
                have hlt2 : q + i < zs.length := by
                  rcases Nat.lt_or_ge (q + i) zs.length with h | h
                  · exact h
                  · have := HV0.out.symm.trans (HI.out.trans (by rw [List.drop_eq_nil_of_le h, rv_nil])); simp at this
                have t2 : ((zs.length : Int) ≤ ((q + i : Nat) : Int)) = False := eq_false (by omega)
                have hx := HBy.out (q + i) hlt2
                have hr1 := HR.out (q + i)
                have hmask := mask8 hr1.1 hr1.2
                by_cases h128 : zs.getD (q + i) 0 < 128
                · have he := HV0.out.symm.trans (HI.out.trans (rv_last hlt2 h10 h128))
                  injection he with he; injection he with he1 he2
                  have HA1 := Aside0.mk he1
                  clear he1
                  generalize hc : zs.getD (q + i) 0 = c at hx hr1 h128 hmask HA1
                  have he3 : bits .or .u64 X (IntKind.u64.wrap (c % 128 * 2 ^ (7 * i))) = v := HA1.out.symm
                  have e32 := E32.out
                  clear hc HA1 he2
                  go_wp2_with (go_at_call 30; (with_reducible refine (HS.out).mono ?_); rintro e w1 ⟨⟨t, u, rfl⟩, hb⟩; have HN := Aside0.mk hb; obtain ⟨e0, p0, e1, p1, e2, p2, g0, g1, g2⟩ := HGE.out.below hb; clear hb e32)
                  repeat (go_quiet (fail); try go_wp2)
                  go_ret
                  exact ⟨by first | exact HG.out.trans (grown_of_below HN.out _) | (exact (HG.out.trans (grown_of_below HN.out _)).trans ⟨rfl, rfl, rfl, Nat.le_refl _, fun _ _ _ => rfl⟩), .inl ⟨HBAD.out, _, _, rfl⟩⟩
                · have HM := Aside0.mk (HI.out.trans (rv_more hlt2 h10 h128))
                  generalize hc : zs.getD (q + i) 0 = c at hx hr1 h128 hmask HM
                  clear hc
                  go_wp2
                  go_roundw
                  case rel => exact ⟨i + 1, _, by omega, by omega, by go_num, rfl, by go_num, ⟨HM.out⟩, (by first | rfl | trivial)⟩
                  case measure => simp [intOf]; omega
          · obtain ⟨⟨m0, m1⟩, j0, j1⟩ := rv_range ((zs.drop q).drop k) 0 0 n j hv2
            rw [List.length_drop, List.length_drop] at j1
            by_cases hn : n ≤ (((zs.drop q).length - k - j : Nat) : Int)
            ·
              have hn1 := hn
              rw [List.length_drop] at hn1
              obtain ⟨N, hN⟩ : ∃ N : Nat, N = k + j + n.toNat := ⟨_, rfl⟩
              have HS := Aside0.mk (by have h := skip_txt b (A + q) (cp - q) (zs.drop q) wr (HBy.out.tail q) (HR.out.drop q) (by rw [List.length_drop]; omega) v k HV0.out hK2 n j hv2 m0 (by omega); simp only [List.length_drop] at h; exact h)
              rw [← hN] at HS
              have HEQ : Aside0 (all (zs.length + 1) zs x0' = all m (zs.drop (q + N)) x) := ⟨HV.out.trans (by rw [HF.out, fldS_some hv2, if_pos hn, if_neg (by omega), hN]; simp only [List.drop_drop])⟩
              clear HV HF q7 hv2 hn
              have zq : (cp = q) = False := eq_false (by omega)
              have zq2 : ((q : Int) ≤ (zs.length : Int)) = True := eq_true (by omega)
              have zq3 : (q ≤ zs.length) = True := eq_true (by omega)
              have t5 : ((N : Int) < 0) = False := eq_false (by omega)
              have E5 : Aside0 (wrap64 ((q : Int) + (N : Int)) = (q : Int) + (N : Int)) := ⟨IntWalk.wrap64_in _ ⟨by omega, by omega⟩⟩
              have t6 : ((q : Int) + (N : Int) < 0) = False := eq_false (by omega)
              have t7 : ((zs.length : Int) < (q : Int) + (N : Int)) = False := eq_false (by omega)
              have HLE := Aside0.mk (show q + N ≤ zs.length ∧ 0 < N by omega)
              have bk0 : (v % 8 == 0) = false := beq_eq_false_iff_ne.2 (by omega)
              have bk1 : (v % 8 == 1) = false := beq_eq_false_iff_ne.2 (by omega)
              have bk2 : (v % 8 == 2) = true := beq_iff_eq.2 (by omega)
              have bk3 : (v % 8 == 3) = false := beq_eq_false_iff_ne.2 (by omega)
              have bk4 : (v % 8 == 4) = false := beq_eq_false_iff_ne.2 (by omega)
              have bk5 : (v % 8 == 5) = false := beq_eq_false_iff_ne.2 (by omega)
              have bf1 : (v / 8 == 1) = false := beq_eq_false_iff_ne.2 (by omega)
              have bf2 : (v / 8 == 2) = false := beq_eq_false_iff_ne.2 (by omega)
              have bf3 : (v / 8 == 3) = false := beq_eq_false_iff_ne.2 (by omega)
              as_aux_lemma =>
                go_wp2
                go_loopw [6, 8, 9] (fun p a sh wi => ∃ (i : Nat) (X : Int), q + i ≤ zs.length ∧ i ≤ 10 ∧ p = .int .i64 ((q + i : Nat) : Int) ∧ a = .int .u64 X ∧ sh = .int .u64 ((7 * i : Nat) : Int) ∧ Aside0 (rv 0 0 (zs.drop (q)) = rv i X (zs.drop (q + i))) ∧ wi = wr) (fun p _ _ _ => zs.length - (intOf p).toNat)
                case atStart => exact ⟨0, 0, by omega, by omega, by go_num, rfl, rfl, ⟨rfl⟩, rfl⟩
                case round =>
                  obtain ⟨i, X, hi, hi10, rfl, rfl, rfl, HI, rfl⟩ := hrel
                  have h10 : i ≠ 10 := fun e => by subst e; have := HV0.out.symm.trans (HI.out.trans (rv_ten' _ _)); simp at this
                  have t1 : ((64 : Int) ≤ ((7 * i : Nat) : Int)) = False := eq_false (by omega)
                  have hlt2 : q + i < zs.length := by
                    rcases Nat.lt_or_ge (q + i) zs.length with h | h
                    · exact h
                    · have := HV0.out.symm.trans (HI.out.trans (by rw [List.drop_eq_nil_of_le h, rv_nil])); simp at this
                  have t2 : ((zs.length : Int) ≤ ((q + i : Nat) : Int)) = False := eq_false (by omega)
                  have hx := HBy.out (q + i) hlt2
                  have hr1 := HR.out (q + i)
                  have hmask := mask8 hr1.1 hr1.2
                  by_cases h128 : zs.getD (q + i) 0 < 128
                  · have he := HV0.out.symm.trans (HI.out.trans (rv_last hlt2 h10 h128))
                    injection he with he; injection he with he1 he2
                    have HA1 := Aside0.mk he1
                    clear he1
                    generalize hc : zs.getD (q + i) 0 = c at hx hr1 h128 hmask HA1
                    have he3 : bits .or .u64 X (IntKind.u64.wrap (c % 128 * 2 ^ (7 * i))) = v := HA1.out.symm
                    have e32 := E32.out
                    clear hc HA1 he2
                    go_wp2_with (go_at_call 30; (with_reducible refine (HS.out).mono ?_); rintro e w1 ⟨rfl, hb⟩; have HN := Aside0.mk hb; obtain ⟨e0, p0, e1, p1, e2, p2, g0, g1, g2⟩ := HGE.out.below hb; clear hb e32; have e5 := E5.out; have HN0 := Aside0.mk hN; clear hN)
                    clear e5
                    go_roundw
                    case rel => exact ⟨q + N, x, m, (by have := HLE.out; omega), (by rw [E5.out]; first | rfl | go_num), (by have := HLE.out; omega), HEQ, ⟨blk_below HC.out HN.out⟩, ⟨HG.out.trans (grown_of_below HN.out _)⟩⟩
                    case measure => exact less_of HLE.out hlt E5.out
                  · have HM := Aside0.mk (HI.out.trans (rv_more hlt2 h10 h128))
                    generalize hc : zs.getD (q + i) 0 = c at hx hr1 h128 hmask HM
                    clear hc
                    go_wp2
                    go_roundw
                    case rel => exact ⟨i + 1, _, by omega, by omega, by go_num, rfl, by go_num, ⟨HM.out⟩, (by first | rfl | trivial)⟩
                    case measure => simp [intOf]; omega
            · have HBAD : Aside0 (all (zs.length + 1) zs x0' = .bad) := ⟨HV.out.trans (by rw [HF.out, fldS_some hv2, if_neg hn])⟩
              rw [List.length_drop] at hn
              clear HV HF q7
              by_cases hb1 : 9223372036854775807 < (k : Int) + j + n
              ·
                have HS := Aside0.mk (by have h := skip_txt_big b (A + q) (cp - q) (zs.drop q) wr (HBy.out.tail q) (HR.out.drop q) (by rw [List.length_drop]; omega) v k HV0.out hK2 n j hv2 m1 hb1 HGE.out; simp only [List.length_drop] at h; exact h)
                have zq : (cp = q) = False := eq_false (by omega)
                have zq2 : ((q : Int) ≤ (zs.length : Int)) = True := eq_true (by omega)
                have zq3 : (q ≤ zs.length) = True := eq_true (by omega)
                have bk0 : (v % 8 == 0) = false := beq_eq_false_iff_ne.2 (by omega)
                have bk1 : (v % 8 == 1) = false := beq_eq_false_iff_ne.2 (by omega)
                have bk2 : (v % 8 == 2) = true := beq_iff_eq.2 (by omega)
                have bk3 : (v % 8 == 3) = false := beq_eq_false_iff_ne.2 (by omega)
                have bk4 : (v % 8 == 4) = false := beq_eq_false_iff_ne.2 (by omega)
                have bk5 : (v % 8 == 5) = false := beq_eq_false_iff_ne.2 (by omega)
                have bf1 : (v / 8 == 1) = false := beq_eq_false_iff_ne.2 (by omega)
                have bf2 : (v / 8 == 2) = false := beq_eq_false_iff_ne.2 (by omega)
                have bf3 : (v / 8 == 3) = false := beq_eq_false_iff_ne.2 (by omega)
                as_aux_lemma =>
                  go_wp2
                  go_loopw [6, 8, 9] (fun p a sh wi => ∃ (i : Nat) (X : Int), q + i ≤ zs.length ∧ i ≤ 10 ∧ p = .int .i64 ((q + i : Nat) : Int) ∧ a = .int .u64 X ∧ sh = .int .u64 ((7 * i : Nat) : Int) ∧ Aside0 (rv 0 0 (zs.drop (q)) = rv i X (zs.drop (q + i))) ∧ wi = wr) (fun p _ _ _ => zs.length - (intOf p).toNat)
                  case atStart => exact ⟨0, 0, by omega, by omega, by go_num, rfl, rfl, ⟨rfl⟩, rfl⟩
                  case round =>
                    obtain ⟨i, X, hi, hi10, rfl, rfl, rfl, HI, rfl⟩ := hrel
                    have h10 : i ≠ 10 := fun e => by subst e; have := HV0.out.symm.trans (HI.out.trans (rv_ten' _ _)); simp at this
                    have t1 : ((64 : Int) ≤ ((7 * i : Nat) : Int)) = False := eq_false (by omega)
                    have hlt2 : q + i < zs.length := by
                      rcases Nat.lt_or_ge (q + i) zs.length with h | h
                      · exact h
                      · have := HV0.out.symm.trans (HI.out.trans (by rw [List.drop_eq_nil_of_le h, rv_nil])); simp at this
                    have t2 : ((zs.length : Int) ≤ ((q + i : Nat) : Int)) = False := eq_false (by omega)
                    have hx := HBy.out (q + i) hlt2
                    have hr1 := HR.out (q + i)
                    have hmask := mask8 hr1.1 hr1.2
                    by_cases h128 : zs.getD (q + i) 0 < 128
                    · have he := HV0.out.symm.trans (HI.out.trans (rv_last hlt2 h10 h128))
                      injection he with he; injection he with he1 he2
                      have HA1 := Aside0.mk he1
                      clear he1
                      generalize hc : zs.getD (q + i) 0 = c at hx hr1 h128 hmask HA1
                      have he3 : bits .or .u64 X (IntKind.u64.wrap (c % 128 * 2 ^ (7 * i))) = v := HA1.out.symm
                      have e32 := E32.out
                      clear hc HA1 he2
                      go_wp2_with (go_at_call 30; (with_reducible refine (HS.out).mono ?_); rintro e w1 ⟨⟨t, u, rfl⟩, hb⟩; have HN := Aside0.mk hb; obtain ⟨e0, p0, e1, p1, e2, p2, g0, g1, g2⟩ := HGE.out.below hb; clear hb e32)
                      repeat (go_quiet (fail); try go_wp2)
                      go_ret
                      exact ⟨by first | exact HG.out.trans (grown_of_below HN.out _) | (exact (HG.out.trans (grown_of_below HN.out _)).trans ⟨rfl, rfl, rfl, Nat.le_refl _, fun _ _ _ => rfl⟩), .inl ⟨HBAD.out, _, _, rfl⟩⟩
                    · have HM := Aside0.mk (HI.out.trans (rv_more hlt2 h10 h128))
                      generalize hc : zs.getD (q + i) 0 = c at hx hr1 h128 hmask HM
                      clear hc
                      go_wp2
                      go_roundw
                      case rel => exact ⟨i + 1, _, by omega, by omega, by go_num, rfl, by go_num, ⟨HM.out⟩, (by first | rfl | trivial)⟩
                      case measure => simp [intOf]; omega
              by_cases hb2 : 9223372036854775807 < (q : Int) + (k : Int) + j + n
              ·
                obtain ⟨N, hN⟩ : ∃ N : Nat, N = k + j + n.toNat := ⟨_, rfl⟩
                have HS := Aside0.mk (by have h := skip_txt b (A + q) (cp - q) (zs.drop q) wr (HBy.out.tail q) (HR.out.drop q) (by rw [List.length_drop]; omega) v k HV0.out hK2 n j hv2 m0 (by omega); simp only [List.length_drop] at h; exact h)
                rw [← hN] at HS
                have zq : (cp = q) = False := eq_false (by omega)
                have zq2 : ((q : Int) ≤ (zs.length : Int)) = True := eq_true (by omega)
                have zq3 : (q ≤ zs.length) = True := eq_true (by omega)
                have t5 : ((N : Int) < 0) = False := eq_false (by omega)
                have E5 : Aside0 (wrap64 ((q : Int) + (N : Int)) = (q : Int) + (N : Int) - 18446744073709551616) := ⟨wrap64_big _ (by omega) (by omega)⟩
                have t6 : ((q : Int) + (N : Int) - 18446744073709551616 < 0) = True := eq_true (by omega)
                have bk0 : (v % 8 == 0) = false := beq_eq_false_iff_ne.2 (by omega)
                have bk1 : (v % 8 == 1) = false := beq_eq_false_iff_ne.2 (by omega)
                have bk2 : (v % 8 == 2) = true := beq_iff_eq.2 (by omega)
                have bk3 : (v % 8 == 3) = false := beq_eq_false_iff_ne.2 (by omega)
                have bk4 : (v % 8 == 4) = false := beq_eq_false_iff_ne.2 (by omega)
                have bk5 : (v % 8 == 5) = false := beq_eq_false_iff_ne.2 (by omega)
                have bf1 : (v / 8 == 1) = false := beq_eq_false_iff_ne.2 (by omega)
                have bf2 : (v / 8 == 2) = false := beq_eq_false_iff_ne.2 (by omega)
                have bf3 : (v / 8 == 3) = false := beq_eq_false_iff_ne.2 (by omega)
                as_aux_lemma =>
                  go_wp2
                  go_loopw [6, 8, 9] (fun p a sh wi => ∃ (i : Nat) (X : Int), q + i ≤ zs.length ∧ i ≤ 10 ∧ p = .int .i64 ((q + i : Nat) : Int) ∧ a = .int .u64 X ∧ sh = .int .u64 ((7 * i : Nat) : Int) ∧ Aside0 (rv 0 0 (zs.drop (q)) = rv i X (zs.drop (q + i))) ∧ wi = wr) (fun p _ _ _ => zs.length - (intOf p).toNat)
                  case atStart => exact ⟨0, 0, by omega, by omega, by go_num, rfl, rfl, ⟨rfl⟩, rfl⟩
                  case round =>
                    obtain ⟨i, X, hi, hi10, rfl, rfl, rfl, HI, rfl⟩ := hrel
                    have h10 : i ≠ 10 := fun e => by subst e; have := HV0.out.symm.trans (HI.out.trans (rv_ten' _ _)); simp at this
                    have t1 : ((64 : Int) ≤ ((7 * i : Nat) : Int)) = False := eq_false (by omega)
                    have hlt2 : q + i < zs.length := by
                      rcases Nat.lt_or_ge (q + i) zs.length with h | h
                      · exact h
                      · have := HV0.out.symm.trans (HI.out.trans (by rw [List.drop_eq_nil_of_le h, rv_nil])); simp at this
                    have t2 : ((zs.length : Int) ≤ ((q + i : Nat) : Int)) = False := eq_false (by omega)
                    have hx := HBy.out (q + i) hlt2
                    have hr1 := HR.out (q + i)
                    have hmask := mask8 hr1.1 hr1.2
                    by_cases h128 : zs.getD (q + i) 0 < 128
                    · have he := HV0.out.symm.trans (HI.out.trans (rv_last hlt2 h10 h128))
                      injection he with he; injection he with he1 he2
                      have HA1 := Aside0.mk he1
                      clear he1
                      generalize hc : zs.getD (q + i) 0 = c at hx hr1 h128 hmask HA1
                      have he3 : bits .or .u64 X (IntKind.u64.wrap (c % 128 * 2 ^ (7 * i))) = v := HA1.out.symm
                      have e32 := E32.out
                      clear hc HA1 he2
                      go_wp2_with (go_at_call 30; (with_reducible refine (HS.out).mono ?_); rintro e w1 ⟨rfl, hb⟩; have HN := Aside0.mk hb; obtain ⟨e0, p0, e1, p1, e2, p2, g0, g1, g2⟩ := HGE.out.below hb; clear hb e32; have e5 := E5.out; have HN0 := Aside0.mk hN; clear hN)
                      repeat (go_quiet (fail); try go_wp2)
                      go_ret
                      exact ⟨by first | exact HG.out.trans (grown_of_below HN.out _) | (exact (HG.out.trans (grown_of_below HN.out _)).trans ⟨rfl, rfl, rfl, Nat.le_refl _, fun _ _ _ => rfl⟩), .inl ⟨HBAD.out, _, _, rfl⟩⟩
                    · have HM := Aside0.mk (HI.out.trans (rv_more hlt2 h10 h128))
                      generalize hc : zs.getD (q + i) 0 = c at hx hr1 h128 hmask HM
                      clear hc
                      go_wp2
                      go_roundw
                      case rel => exact ⟨i + 1, _, by omega, by omega, by go_num, rfl, by go_num, ⟨HM.out⟩, (by first | rfl | trivial)⟩
                      case measure => simp [intOf]; omega
              ·
                obtain ⟨N, hN⟩ : ∃ N : Nat, N = k + j + n.toNat := ⟨_, rfl⟩
                have HS := Aside0.mk (by have h := skip_txt b (A + q) (cp - q) (zs.drop q) wr (HBy.out.tail q) (HR.out.drop q) (by rw [List.length_drop]; omega) v k HV0.out hK2 n j hv2 m0 (by omega); simp only [List.length_drop] at h; exact h)
                rw [← hN] at HS
                have zq : (cp = q) = False := eq_false (by omega)
                have zq2 : ((q : Int) ≤ (zs.length : Int)) = True := eq_true (by omega)
                have zq3 : (q ≤ zs.length) = True := eq_true (by omega)
                have t5 : ((N : Int) < 0) = False := eq_false (by omega)
                have E5 : Aside0 (wrap64 ((q : Int) + (N : Int)) = (q : Int) + (N : Int)) := ⟨IntWalk.wrap64_in _ ⟨by omega, by omega⟩⟩
                have t6 : ((q : Int) + (N : Int) < 0) = False := eq_false (by omega)
                have t7 : ((zs.length : Int) < (q : Int) + (N : Int)) = True := eq_true (by omega)
                have bk0 : (v % 8 == 0) = false := beq_eq_false_iff_ne.2 (by omega)
                have bk1 : (v % 8 == 1) = false := beq_eq_false_iff_ne.2 (by omega)
                have bk2 : (v % 8 == 2) = true := beq_iff_eq.2 (by omega)
                have bk3 : (v % 8 == 3) = false := beq_eq_false_iff_ne.2 (by omega)
                have bk4 : (v % 8 == 4) = false := beq_eq_false_iff_ne.2 (by omega)
                have bk5 : (v % 8 == 5) = false := beq_eq_false_iff_ne.2 (by omega)
                have bf1 : (v / 8 == 1) = false := beq_eq_false_iff_ne.2 (by omega)
                have bf2 : (v / 8 == 2) = false := beq_eq_false_iff_ne.2 (by omega)
                have bf3 : (v / 8 == 3) = false := beq_eq_false_iff_ne.2 (by omega)
                as_aux_lemma =>
                  go_wp2
                  go_loopw [6, 8, 9] (fun p a sh wi => ∃ (i : Nat) (X : Int), q + i ≤ zs.length ∧ i ≤ 10 ∧ p = .int .i64 ((q + i : Nat) : Int) ∧ a = .int .u64 X ∧ sh = .int .u64 ((7 * i : Nat) : Int) ∧ Aside0 (rv 0 0 (zs.drop (q)) = rv i X (zs.drop (q + i))) ∧ wi = wr) (fun p _ _ _ => zs.length - (intOf p).toNat)
                  case atStart => exact ⟨0, 0, by omega, by omega, by go_num, rfl, rfl, ⟨rfl⟩, rfl⟩
                  case round =>
                    obtain ⟨i, X, hi, hi10, rfl, rfl, rfl, HI, rfl⟩ := hrel
                    have h10 : i ≠ 10 := fun e => by subst e; have := HV0.out.symm.trans (HI.out.trans (rv_ten' _ _)); simp at this
                    have t1 : ((64 : Int) ≤ ((7 * i : Nat) : Int)) = False := eq_false (by omega)
                    have hlt2 : q + i < zs.length := by
                      rcases Nat.lt_or_ge (q + i) zs.length with h | h
                      · exact h
                      · have := HV0.out.symm.trans (HI.out.trans (by rw [List.drop_eq_nil_of_le h, rv_nil])); simp at this
                    have t2 : ((zs.length : Int) ≤ ((q + i : Nat) : Int)) = False := eq_false (by omega)
                    have hx := HBy.out (q + i) hlt2
                    have hr1 := HR.out (q + i)
                    have hmask := mask8 hr1.1 hr1.2
                    by_cases h128 : zs.getD (q + i) 0 < 128
                    · have he := HV0.out.symm.trans (HI.out.trans (rv_last hlt2 h10 h128))
                      injection he with he; injection he with he1 he2
                      have HA1 := Aside0.mk he1
                      clear he1
                      generalize hc : zs.getD (q + i) 0 = c at hx hr1 h128 hmask HA1
                      have he3 : bits .or .u64 X (IntKind.u64.wrap (c % 128 * 2 ^ (7 * i))) = v := HA1.out.symm
                      have e32 := E32.out
                      clear hc HA1 he2
                      go_wp2_with (go_at_call 30; (with_reducible refine (HS.out).mono ?_); rintro e w1 ⟨rfl, hb⟩; have HN := Aside0.mk hb; obtain ⟨e0, p0, e1, p1, e2, p2, g0, g1, g2⟩ := HGE.out.below hb; clear hb e32; have e5 := E5.out; have HN0 := Aside0.mk hN; clear hN)
                      repeat (go_quiet (fail); try go_wp2)
                      go_ret
                      exact ⟨by first | exact HG.out.trans (grown_of_below HN.out _) | (exact (HG.out.trans (grown_of_below HN.out _)).trans ⟨rfl, rfl, rfl, Nat.le_refl _, fun _ _ _ => rfl⟩), .inl ⟨HBAD.out, _, _, rfl⟩⟩
                    · have HM := Aside0.mk (HI.out.trans (rv_more hlt2 h10 h128))
                      generalize hc : zs.getD (q + i) 0 = c at hx hr1 h128 hmask HM
                      clear hc
                      go_wp2
                      go_roundw
                      case rel => exact ⟨i + 1, _, by omega, by omega, by go_num, rfl, by go_num, ⟨HM.out⟩, (by first | rfl | trivial)⟩
                      case measure => simp [intOf]; omega
        have hF3 : v / 8 = 3 := by omega
        have HF := Aside0.mk (HF.out)
        rcases hv2 : rv 0 0 ((zs.drop q).drop k) with _ | ⟨n, j⟩
        ·
          have HBAD : Aside0 (all (zs.length + 1) zs x0' = .bad) := ⟨HV.out.trans (by rw [HF.out, fldS, hv2])⟩
          rw [q7] at hv2
          have HV2 := Aside0.mk hv2
          clear HV HF hv2 q7
          have bk0 : (v % 8 == 0) = false := beq_eq_false_iff_ne.2 (by omega)
          have bk1 : (v % 8 == 1) = false := beq_eq_false_iff_ne.2 (by omega)
          have bk2 : (v % 8 == 2) = true := beq_iff_eq.2 (by omega)
          have bk3 : (v % 8 == 3) = false := beq_eq_false_iff_ne.2 (by omega)
          have bk4 : (v % 8 == 4) = false := beq_eq_false_iff_ne.2 (by omega)
          have bk5 : (v % 8 == 5) = false := beq_eq_false_iff_ne.2 (by omega)
          have bf1 : (v / 8 == 1) = false := beq_eq_false_iff_ne.2 (by omega)
          have bf2 : (v / 8 == 2) = false := beq_eq_false_iff_ne.2 (by omega)
          have bf3 : (v / 8 == 3) = true := beq_iff_eq.2 (by omega)
          as_aux_lemma =>
            go_wp2
            go_loopw [6, 8, 9] (fun p a sh wi => ∃ (i : Nat) (X : Int), q + i ≤ zs.length ∧ i ≤ 10 ∧ p = .int .i64 ((q + i : Nat) : Int) ∧ a = .int .u64 X ∧ sh = .int .u64 ((7 * i : Nat) : Int) ∧ Aside0 (rv 0 0 (zs.drop (q)) = rv i X (zs.drop (q + i))) ∧ wi = wr) (fun p _ _ _ => zs.length - (intOf p).toNat)
            case atStart => exact ⟨0, 0, by omega, by omega, by go_num, rfl, rfl, ⟨rfl⟩, rfl⟩
            case round =>
              obtain ⟨i, X, hi, hi10, rfl, rfl, rfl, HI, rfl⟩ := hrel
              have h10 : i ≠ 10 := fun e => by subst e; have := HV0.out.symm.trans (HI.out.trans (rv_ten' _ _)); simp at this
              have t1 : ((64 : Int) ≤ ((7 * i : Nat) : Int)) = False := eq_false (by omega)
              have hlt2 : q + i < zs.length := by
                rcases Nat.lt_or_ge (q + i) zs.length with h | h
                · exact h
                · have := HV0.out.symm.trans (HI.out.trans (by rw [List.drop_eq_nil_of_le h, rv_nil])); simp at this
              have t2 : ((zs.length : Int) ≤ ((q + i : Nat) : Int)) = False := eq_false (by omega)
              have hx := HBy.out (q + i) hlt2
              have hr1 := HR.out (q + i)
              have hmask := mask8 hr1.1 hr1.2
              by_cases h128 : zs.getD (q + i) 0 < 128
              · have he := HV0.out.symm.trans (HI.out.trans (rv_last hlt2 h10 h128))
                injection he with he; injection he with he1 he2
                have HA1 := Aside0.mk he1
                clear he1
                generalize hc : zs.getD (q + i) 0 = c at hx hr1 h128 hmask HA1
                have he3 : bits .or .u64 X (IntKind.u64.wrap (c % 128 * 2 ^ (7 * i))) = v := HA1.out.symm
                have e32 := E32.out
                have HK := Aside0.mk he2
                clear hc HA1 he2
                go_wp2
                clear hx hr1 h128 hmask he3 t1 t2 e32
                go_loopw [6, 17, 18] (fun p a sh wi => ∃ (i : Nat) (X : Int), q + k + i ≤ zs.length ∧ i ≤ 10 ∧ p = .int .i64 ((q + k + i : Nat) : Int) ∧ a = .int .u64 X ∧ sh = .int .u64 ((7 * i : Nat) : Int) ∧ Aside0 (rv 0 0 (zs.drop (q + k)) = rv i X (zs.drop (q + k + i))) ∧ wi = wr) (fun p _ _ _ => zs.length - (intOf p).toNat)
                case atStart => exact ⟨0, 0, by omega, by omega, (by have := HK.out; simp; omega), rfl, rfl, ⟨rfl⟩, rfl⟩
                case round =>
                  obtain ⟨i, X, hi, hi10, rfl, rfl, rfl, HI, rfl⟩ := hrel
                  obtain ⟨e0, p0, e1, p1, e2, p2, g0, g1, g2⟩ := HGE.out
                  by_cases h10 : i = 10
                  · have t1 : ((64 : Int) ≤ ((7 * i : Nat) : Int)) = True := eq_true (by omega)
                    go_wp2
                    repeat (go_quiet (fail); try go_wp2)
                    go_ret
                    exact ⟨by first | exact HG.out | (exact (HG.out).trans ⟨rfl, rfl, rfl, Nat.le_refl _, fun _ _ _ => rfl⟩), .inl ⟨HBAD.out, _, _, rfl⟩⟩
                  have t1 : ((64 : Int) ≤ ((7 * i : Nat) : Int)) = False := eq_false (by omega)
                  by_cases hlt2 : q + k + i < zs.length
                  case neg =>
                    have t2 : ((zs.length : Int) ≤ ((q + k + i : Nat) : Int)) = True := eq_true (by omega)
                    go_wp2
                    repeat (go_quiet (fail); try go_wp2)
                    go_ret
                    exact ⟨by first | exact HG.out | (exact (HG.out).trans ⟨rfl, rfl, rfl, Nat.le_refl _, fun _ _ _ => rfl⟩), .inl ⟨HBAD.out, _, _, rfl⟩⟩
                  have t2 : ((zs.length : Int) ≤ ((q + k + i : Nat) : Int)) = False := eq_false (by omega)
                  have hx := HBy.out (q + k + i) hlt2
                  have hr1 := HR.out (q + k + i)
                  have hmask := mask8 hr1.1 hr1.2
                  by_cases h128 : zs.getD (q + k + i) 0 < 128
                  · have he := HV2.out.symm.trans (HI.out.trans (rv_last hlt2 h10 h128))
                    simp at he
                  · have HM := Aside0.mk (HI.out.trans (rv_more hlt2 h10 h128))
                    generalize hc : zs.getD (q + k + i) 0 = c at hx hr1 h128 hmask HM
                    clear hc
                    go_wp2
                    go_roundw
                    case rel => exact ⟨i + 1, _, by omega, by omega, by go_num, rfl, by go_num, ⟨HM.out⟩, (by first | rfl | trivial)⟩
                    case measure => simp [intOf]; omega
              · have HM := Aside0.mk (HI.out.trans (rv_more hlt2 h10 h128))
                generalize hc : zs.getD (q + i) 0 = c at hx hr1 h128 hmask HM
                clear hc
                go_wp2
                go_roundw
                case rel => exact ⟨i + 1, _, by omega, by omega, by go_num, rfl, by go_num, ⟨HM.out⟩, (by first | rfl | trivial)⟩
                case measure => simp [intOf]; omega
        · obtain ⟨⟨m0, m1⟩, j0, j1⟩ := rv_range ((zs.drop q).drop k) 0 0 n j hv2
          rw [List.length_drop, List.length_drop] at j1
          have HS := Aside0.mk (HV.out.trans (by rw [HF.out, fldS_some hv2]))
          rw [q7] at hv2
          have HV2 := Aside0.mk hv2
          clear HV HF hv2 q7
          by_cases hn : n ≤ (((zs.drop q).length - k - j : Nat) : Int)
          ·
            have HEQ : Aside0 (all (zs.length + 1) zs x0' = all m (zs.drop (q + (k + j + n.toNat))) (x.1, x.2.1, txtOf ((zs.drop (q + (k + j))).take n.toNat))) := ⟨HS.out.trans (by rw [if_pos hn, if_pos hF3]; simp only [List.drop_drop])⟩
            rw [List.length_drop] at hn
            clear HS
            have bk0 : (v % 8 == 0) = false := beq_eq_false_iff_ne.2 (by omega)
            have bk1 : (v % 8 == 1) = false := beq_eq_false_iff_ne.2 (by omega)
            have bk2 : (v % 8 == 2) = true := beq_iff_eq.2 (by omega)
            have bk3 : (v % 8 == 3) = false := beq_eq_false_iff_ne.2 (by omega)
            have bk4 : (v % 8 == 4) = false := beq_eq_false_iff_ne.2 (by omega)
            have bk5 : (v % 8 == 5) = false := beq_eq_false_iff_ne.2 (by omega)
            have bf1 : (v / 8 == 1) = false := beq_eq_false_iff_ne.2 (by omega)
            have bf2 : (v / 8 == 2) = false := beq_eq_false_iff_ne.2 (by omega)
            have bf3 : (v / 8 == 3) = true := beq_iff_eq.2 (by omega)
            have c0 : _ = some (Value.int .i64 (x.1)) := blk_cell HC.out 0
            have c1 : _ = some (Value.int .i32 (x.2.1)) := blk_cell HC.out 1
            have c2 : _ = some (Value.string x.2.2) := blk_cell HC.out 2
            have r0 := blk_frozen HC.out 0; have r1 := blk_frozen HC.out 1; have r2 := blk_frozen HC.out 2
            as_aux_lemma =>
              go_wp2
              go_loopw [6, 8, 9] (fun p a sh wi => ∃ (i : Nat) (X : Int), q + i ≤ zs.length ∧ i ≤ 10 ∧ p = .int .i64 ((q + i : Nat) : Int) ∧ a = .int .u64 X ∧ sh = .int .u64 ((7 * i : Nat) : Int) ∧ Aside0 (rv 0 0 (zs.drop (q)) = rv i X (zs.drop (q + i))) ∧ wi = wr) (fun p _ _ _ => zs.length - (intOf p).toNat)
              case atStart => exact ⟨0, 0, by omega, by omega, by go_num, rfl, rfl, ⟨rfl⟩, rfl⟩
              case round =>
                obtain ⟨i, X, hi, hi10, rfl, rfl, rfl, HI, rfl⟩ := hrel
                have h10 : i ≠ 10 := fun e => by subst e; have := HV0.out.symm.trans (HI.out.trans (rv_ten' _ _)); simp at this
                have t1 : ((64 : Int) ≤ ((7 * i : Nat) : Int)) = False := eq_false (by omega)
                have hlt2 : q + i < zs.length := by
                  rcases Nat.lt_or_ge (q + i) zs.length with h | h
                  · exact h
                  · have := HV0.out.symm.trans (HI.out.trans (by rw [List.drop_eq_nil_of_le h, rv_nil])); simp at this
                have t2 : ((zs.length : Int) ≤ ((q + i : Nat) : Int)) = False := eq_false (by omega)
                have hx := HBy.out (q + i) hlt2
                have hr1 := HR.out (q + i)
                have hmask := mask8 hr1.1 hr1.2
                by_cases h128 : zs.getD (q + i) 0 < 128
                · have he := HV0.out.symm.trans (HI.out.trans (rv_last hlt2 h10 h128))
                  injection he with he; injection he with he1 he2
                  have HA1 := Aside0.mk he1
                  clear he1
                  generalize hc : zs.getD (q + i) 0 = c at hx hr1 h128 hmask HA1
                  have he3 : bits .or .u64 X (IntKind.u64.wrap (c % 128 * 2 ^ (7 * i))) = v := HA1.out.symm
                  have e32 := E32.out
                  have HK := Aside0.mk he2
                  clear hc HA1 he2
                  go_wp2
                  clear hx hr1 h128 hmask he3 t1 t2 e32
                  go_loopw [6, 17, 18] (fun p a sh wi => ∃ (i : Nat) (X : Int), q + k + i ≤ zs.length ∧ i ≤ 10 ∧ p = .int .i64 ((q + k + i : Nat) : Int) ∧ a = .int .u64 X ∧ sh = .int .u64 ((7 * i : Nat) : Int) ∧ Aside0 (rv 0 0 (zs.drop (q + k)) = rv i X (zs.drop (q + k + i))) ∧ wi = wr) (fun p _ _ _ => zs.length - (intOf p).toNat)
                  case atStart => exact ⟨0, 0, by omega, by omega, (by have := HK.out; simp; omega), rfl, rfl, ⟨rfl⟩, rfl⟩
                  case round =>
                    obtain ⟨i, X, hi, hi10, rfl, rfl, rfl, HI, rfl⟩ := hrel
                    have h10 : i ≠ 10 := fun e => by subst e; have := HV2.out.symm.trans (HI.out.trans (rv_ten' _ _)); simp at this
                    have t1 : ((64 : Int) ≤ ((7 * i : Nat) : Int)) = False := eq_false (by omega)
                    have hlt2 : q + k + i < zs.length := by
                      rcases Nat.lt_or_ge (q + k + i) zs.length with h | h
                      · exact h
                      · have := HV2.out.symm.trans (HI.out.trans (by rw [List.drop_eq_nil_of_le h, rv_nil])); simp at this
                    have t2 : ((zs.length : Int) ≤ ((q + k + i : Nat) : Int)) = False := eq_false (by omega)
                    have hx := HBy.out (q + k + i) hlt2
                    have hr1 := HR.out (q + k + i)
                    have hmask := mask8 hr1.1 hr1.2
                    by_cases h128 : zs.getD (q + k + i) 0 < 128
                    · have he := HV2.out.symm.trans (HI.out.trans (rv_last hlt2 h10 h128))
                      injection he with he; injection he with he1 he2
                      generalize hc : zs.getD (q + k + i) 0 = c at hx hr1 h128 hmask he1
                      have he3 : bits .or .u64 X (IntKind.u64.wrap (c % 128 * 2 ^ (7 * i))) = n := he1.symm
                      have HJ := Aside0.mk he2
                      have E8 : Aside0 (wrap64 n = n) := ⟨IntWalk.wrap64_in _ ⟨by omega, by omega⟩⟩
                      have t3 : (n < 0) = False := eq_false (by omega)
                      have E9 : Aside0 (wrap64 (((q + k + i : Nat) : Int) + 1 + n) = ((q + k + i : Nat) : Int) + 1 + n) := ⟨IntWalk.wrap64_in _ ⟨by omega, by omega⟩⟩
                      have E10 : Aside0 (wrap64 ((q : Int) + k + i + 1 + n) = (q : Int) + k + i + 1 + n) := ⟨IntWalk.wrap64_in _ ⟨by omega, by omega⟩⟩
                      have t4 : (((q + k + i : Nat) : Int) + 1 + n < 0) = False := eq_false (by omega)
                      have t5 : ((q : Int) + k + i + 1 + n < 0) = False := eq_false (by omega)
                      have t6 : ((zs.length : Int) < ((q + k + i : Nat) : Int) + 1 + n) = False := eq_false (by omega)
                      have t7 : ((zs.length : Int) < (q : Int) + k + i + 1 + n) = False := eq_false (by omega)
                      have b0 : (0 ≤ (q : Int) + k + i + 1 + n) = True := eq_true (by omega)
                      have b1 : ((q : Int) + k + i + 1 + n ≤ (cp : Int)) = True := eq_true (by omega)
                      have b2 : ((q : Int) + k + i + 1 ≤ (q : Int) + k + i + 1 + n) = True := eq_true (by omega)
                      have b3 : ((q : Int) + k + i + 1 + n).toNat - (q + k + i + 1) = n.toNat := by omega
                      have hcv1 : ∀ cap', Sem.run Tryd.prog (convert 22 9 (.slice (some ⟨b, A + (q + k + i + 1), none⟩) n.toNat cap')) wr = .ok (.string (txtOf ((zs.drop (q + (k + j))).take n.toNat))) wr := fun cap' => by
                        rw [he2, show q + (k + (i + 1)) = q + k + i + 1 by omega]
                        exact conv_at (HBy.out.tail (q + k + i + 1)) n.toNat cap' (by simp; omega)
                      have hcv0 : ∀ cap', cp = q + k + i + 1 → Sem.run Tryd.prog (convert 22 9 (.slice (some ⟨b, A, none⟩) n.toNat cap')) wr = .ok (.string (txtOf ((zs.drop (q + (k + j))).take n.toNat))) wr := fun cap' hc => by
                        rw [show n.toNat = 0 by omega]
                        exact conv_at HBy.out 0 cap' (by omega)
                      clear he1 he2 hc
                      have e8 := E8.out; have e9 := E9.out; have e10 := E10.out
                      go_wp2
                      all_goals (clear e8 e9 e10; (first | rw [← h] | skip); go_roundw; (case rel => exact ⟨q + (k + j + n.toNat), _, m, (by have := HJ.out; omega), (by have := HJ.out; congr 1; omega), (by have := HJ.out; omega), HEQ, ⟨blk_put HC.out 2 _ rfl⟩, ⟨HG.out.trans (grown_set _ _ _ _)⟩⟩); (case measure => have := HJ.out; simp [intOf]; omega))
                    · have HM := Aside0.mk (HI.out.trans (rv_more hlt2 h10 h128))
                      generalize hc : zs.getD (q + k + i) 0 = c at hx hr1 h128 hmask HM
                      clear hc
                      go_wp2
                      go_roundw
                      case rel => exact ⟨i + 1, _, by omega, by omega, by go_num, rfl, by go_num, ⟨HM.out⟩, (by first | rfl | trivial)⟩
                      case measure => simp [intOf]; omega
                · have HM := Aside0.mk (HI.out.trans (rv_more hlt2 h10 h128))
                  generalize hc : zs.getD (q + i) 0 = c at hx hr1 h128 hmask HM
                  clear hc
                  go_wp2
                  go_roundw
                  case rel => exact ⟨i + 1, _, by omega, by omega, by go_num, rfl, by go_num, ⟨HM.out⟩, (by first | rfl | trivial)⟩
                  case measure => simp [intOf]; omega
          have HBAD : Aside0 (all (zs.length + 1) zs x0' = .bad) := ⟨HS.out.trans (by rw [if_neg hn])⟩
          rw [List.length_drop] at hn
          clear HS
          by_cases hb1 : 9223372036854775807 < n
          ·
            obtain ⟨e0, p0, e1, p1, e2, p2, g0, g1, g2⟩ := HGE.out
            have bk0 : (v % 8 == 0) = false := beq_eq_false_iff_ne.2 (by omega)
            have bk1 : (v % 8 == 1) = false := beq_eq_false_iff_ne.2 (by omega)
            have bk2 : (v % 8 == 2) = true := beq_iff_eq.2 (by omega)
            have bk3 : (v % 8 == 3) = false := beq_eq_false_iff_ne.2 (by omega)
            have bk4 : (v % 8 == 4) = false := beq_eq_false_iff_ne.2 (by omega)
            have bk5 : (v % 8 == 5) = false := beq_eq_false_iff_ne.2 (by omega)
            have bf1 : (v / 8 == 1) = false := beq_eq_false_iff_ne.2 (by omega)
            have bf2 : (v / 8 == 2) = false := beq_eq_false_iff_ne.2 (by omega)
            have bf3 : (v / 8 == 3) = true := beq_iff_eq.2 (by omega)
            as_aux_lemma =>
              go_wp2
              go_loopw [6, 8, 9] (fun p a sh wi => ∃ (i : Nat) (X : Int), q + i ≤ zs.length ∧ i ≤ 10 ∧ p = .int .i64 ((q + i : Nat) : Int) ∧ a = .int .u64 X ∧ sh = .int .u64 ((7 * i : Nat) : Int) ∧ Aside0 (rv 0 0 (zs.drop (q)) = rv i X (zs.drop (q + i))) ∧ wi = wr) (fun p _ _ _ => zs.length - (intOf p).toNat)
              case atStart => exact ⟨0, 0, by omega, by omega, by go_num, rfl, rfl, ⟨rfl⟩, rfl⟩
              case round =>
                obtain ⟨i, X, hi, hi10, rfl, rfl, rfl, HI, rfl⟩ := hrel
                have h10 : i ≠ 10 := fun e => by subst e; have := HV0.out.symm.trans (HI.out.trans (rv_ten' _ _)); simp at this
                have t1 : ((64 : Int) ≤ ((7 * i : Nat) : Int)) = False := eq_false (by omega)
                have hlt2 : q + i < zs.length := by
                  rcases Nat.lt_or_ge (q + i) zs.length with h | h
                  · exact h
                  · have := HV0.out.symm.trans (HI.out.trans (by rw [List.drop_eq_nil_of_le h, rv_nil])); simp at this
                have t2 : ((zs.length : Int) ≤ ((q + i : Nat) : Int)) = False := eq_false (by omega)
                have hx := HBy.out (q + i) hlt2
                have hr1 := HR.out (q + i)
                have hmask := mask8 hr1.1 hr1.2
                by_cases h128 : zs.getD (q + i) 0 < 128
                · have he := HV0.out.symm.trans (HI.out.trans (rv_last hlt2 h10 h128))
                  injection he with he; injection he with he1 he2
                  have HA1 := Aside0.mk he1
                  clear he1
                  generalize hc : zs.getD (q + i) 0 = c at hx hr1 h128 hmask HA1
                  have he3 : bits .or .u64 X (IntKind.u64.wrap (c % 128 * 2 ^ (7 * i))) = v := HA1.out.symm
                  have e32 := E32.out
                  have HK := Aside0.mk he2
                  clear hc HA1 he2
                  go_wp2
                  clear hx hr1 h128 hmask he3 t1 t2 e32
                  go_loopw [6, 17, 18] (fun p a sh wi => ∃ (i : Nat) (X : Int), q + k + i ≤ zs.length ∧ i ≤ 10 ∧ p = .int .i64 ((q + k + i : Nat) : Int) ∧ a = .int .u64 X ∧ sh = .int .u64 ((7 * i : Nat) : Int) ∧ Aside0 (rv 0 0 (zs.drop (q + k)) = rv i X (zs.drop (q + k + i))) ∧ wi = wr) (fun p _ _ _ => zs.length - (intOf p).toNat)
                  case atStart => exact ⟨0, 0, by omega, by omega, (by have := HK.out; simp; omega), rfl, rfl, ⟨rfl⟩, rfl⟩
                  case round =>
                    obtain ⟨i, X, hi, hi10, rfl, rfl, rfl, HI, rfl⟩ := hrel
                    have h10 : i ≠ 10 := fun e => by subst e; have := HV2.out.symm.trans (HI.out.trans (rv_ten' _ _)); simp at this
                    have t1 : ((64 : Int) ≤ ((7 * i : Nat) : Int)) = False := eq_false (by omega)
                    have hlt2 : q + k + i < zs.length := by
                      rcases Nat.lt_or_ge (q + k + i) zs.length with h | h
                      · exact h
                      · have := HV2.out.symm.trans (HI.out.trans (by rw [List.drop_eq_nil_of_le h, rv_nil])); simp at this
                    have t2 : ((zs.length : Int) ≤ ((q + k + i : Nat) : Int)) = False := eq_false (by omega)
                    have hx := HBy.out (q + k + i) hlt2
                    have hr1 := HR.out (q + k + i)
                    have hmask := mask8 hr1.1 hr1.2
                    by_cases h128 : zs.getD (q + k + i) 0 < 128
                    · have he := HV2.out.symm.trans (HI.out.trans (rv_last hlt2 h10 h128))
                      injection he with he; injection he with he1 he2
                      generalize hc : zs.getD (q + k + i) 0 = c at hx hr1 h128 hmask he1
                      have he3 : bits .or .u64 X (IntKind.u64.wrap (c % 128 * 2 ^ (7 * i))) = n := he1.symm
                      have HJ := Aside0.mk he2
                      have E8 : Aside0 (wrap64 n = n - 18446744073709551616) := ⟨wrap64_big _ (by omega) (by omega)⟩
                      have t3 : (n - 18446744073709551616 < 0) = True := eq_true (by omega)
                      clear he1 he2 hc
                      have e8 := E8.out
                      go_wp2
                      repeat (go_quiet (fail); try go_wp2)
                      go_ret
                      exact ⟨by first | exact HG.out | (exact HG.out.trans ⟨rfl, rfl, rfl, Nat.le_refl _, fun _ _ _ => rfl⟩), .inl ⟨HBAD.out, _, _, rfl⟩⟩
                    · have HM := Aside0.mk (HI.out.trans (rv_more hlt2 h10 h128))
                      generalize hc : zs.getD (q + k + i) 0 = c at hx hr1 h128 hmask HM
                      clear hc
                      go_wp2
                      go_roundw
                      case rel => exact ⟨i + 1, _, by omega, by omega, by go_num, rfl, by go_num, ⟨HM.out⟩, (by first | rfl | trivial)⟩
                      case measure => simp [intOf]; omega
                · have HM := Aside0.mk (HI.out.trans (rv_more hlt2 h10 h128))
                  generalize hc : zs.getD (q + i) 0 = c at hx hr1 h128 hmask HM
                  clear hc
                  go_wp2
                  go_roundw
                  case rel => exact ⟨i + 1, _, by omega, by omega, by go_num, rfl, by go_num, ⟨HM.out⟩, (by first | rfl | trivial)⟩
                  case measure => simp [intOf]; omega
          by_cases hb2 : 9223372036854775807 < (q : Int) + (k : Int) + j + n
          ·
            obtain ⟨e0, p0, e1, p1, e2, p2, g0, g1, g2⟩ := HGE.out
            have bk0 : (v % 8 == 0) = false := beq_eq_false_iff_ne.2 (by omega)
            have bk1 : (v % 8 == 1) = false := beq_eq_false_iff_ne.2 (by omega)
            have bk2 : (v % 8 == 2) = true := beq_iff_eq.2 (by omega)
            have bk3 : (v % 8 == 3) = false := beq_eq_false_iff_ne.2 (by omega)
            have bk4 : (v % 8 == 4) = false := beq_eq_false_iff_ne.2 (by omega)
            have bk5 : (v % 8 == 5) = false := beq_eq_false_iff_ne.2 (by omega)
            have bf1 : (v / 8 == 1) = false := beq_eq_false_iff_ne.2 (by omega)
            have bf2 : (v / 8 == 2) = false := beq_eq_false_iff_ne.2 (by omega)
            have bf3 : (v / 8 == 3) = true := beq_iff_eq.2 (by omega)
            as_aux_lemma =>
              go_wp2
              go_loopw [6, 8, 9] (fun p a sh wi => ∃ (i : Nat) (X : Int), q + i ≤ zs.length ∧ i ≤ 10 ∧ p = .int .i64 ((q + i : Nat) : Int) ∧ a = .int .u64 X ∧ sh = .int .u64 ((7 * i : Nat) : Int) ∧ Aside0 (rv 0 0 (zs.drop (q)) = rv i X (zs.drop (q + i))) ∧ wi = wr) (fun p _ _ _ => zs.length - (intOf p).toNat)
              case atStart => exact ⟨0, 0, by omega, by omega, by go_num, rfl, rfl, ⟨rfl⟩, rfl⟩
              case round =>
                obtain ⟨i, X, hi, hi10, rfl, rfl, rfl, HI, rfl⟩ := hrel
                have h10 : i ≠ 10 := fun e => by subst e; have := HV0.out.symm.trans (HI.out.trans (rv_ten' _ _)); simp at this
                have t1 : ((64 : Int) ≤ ((7 * i : Nat) : Int)) = False := eq_false (by omega)
                have hlt2 : q + i < zs.length := by
                  rcases Nat.lt_or_ge (q + i) zs.length with h | h
                  · exact h
                  · have := HV0.out.symm.trans (HI.out.trans (by rw [List.drop_eq_nil_of_le h, rv_nil])); simp at this
                have t2 : ((zs.length : Int) ≤ ((q + i : Nat) : Int)) = False := eq_false (by omega)
                have hx := HBy.out (q + i) hlt2
                have hr1 := HR.out (q + i)
                have hmask := mask8 hr1.1 hr1.2
                by_cases h128 : zs.getD (q + i) 0 < 128
                · have he := HV0.out.symm.trans (HI.out.trans (rv_last hlt2 h10 h128))
                  injection he with he; injection he with he1 he2
                  have HA1 := Aside0.mk he1
                  clear he1
                  generalize hc : zs.getD (q + i) 0 = c at hx hr1 h128 hmask HA1
                  have he3 : bits .or .u64 X (IntKind.u64.wrap (c % 128 * 2 ^ (7 * i))) = v := HA1.out.symm
                  have e32 := E32.out
                  have HK := Aside0.mk he2
                  clear hc HA1 he2
                  go_wp2
                  clear hx hr1 h128 hmask he3 t1 t2 e32
                  go_loopw [6, 17, 18] (fun p a sh wi => ∃ (i : Nat) (X : Int), q + k + i ≤ zs.length ∧ i ≤ 10 ∧ p = .int .i64 ((q + k + i : Nat) : Int) ∧ a = .int .u64 X ∧ sh = .int .u64 ((7 * i : Nat) : Int) ∧ Aside0 (rv 0 0 (zs.drop (q + k)) = rv i X (zs.drop (q + k + i))) ∧ wi = wr) (fun p _ _ _ => zs.length - (intOf p).toNat)
                  case atStart => exact ⟨0, 0, by omega, by omega, (by have := HK.out; simp; omega), rfl, rfl, ⟨rfl⟩, rfl⟩
                  case round =>
                    obtain ⟨i, X, hi, hi10, rfl, rfl, rfl, HI, rfl⟩ := hrel
                    have h10 : i ≠ 10 := fun e => by subst e; have := HV2.out.symm.trans (HI.out.trans (rv_ten' _ _)); simp at this
                    have t1 : ((64 : Int) ≤ ((7 * i : Nat) : Int)) = False := eq_false (by omega)
                    have hlt2 : q + k + i < zs.length := by
                      rcases Nat.lt_or_ge (q + k + i) zs.length with h | h
                      · exact h
                      · have := HV2.out.symm.trans (HI.out.trans (by rw [List.drop_eq_nil_of_le h, rv_nil])); simp at this
                    have t2 : ((zs.length : Int) ≤ ((q + k + i : Nat) : Int)) = False := eq_false (by omega)
                    have hx := HBy.out (q + k + i) hlt2
                    have hr1 := HR.out (q + k + i)
                    have hmask := mask8 hr1.1 hr1.2
                    by_cases h128 : zs.getD (q + k + i) 0 < 128
                    · have he := HV2.out.symm.trans (HI.out.trans (rv_last hlt2 h10 h128))
                      injection he with he; injection he with he1 he2
                      generalize hc : zs.getD (q + k + i) 0 = c at hx hr1 h128 hmask he1
                      have he3 : bits .or .u64 X (IntKind.u64.wrap (c % 128 * 2 ^ (7 * i))) = n := he1.symm
                      have HJ := Aside0.mk he2
                      have E8 : Aside0 (wrap64 n = n) := ⟨IntWalk.wrap64_in _ ⟨by omega, by omega⟩⟩
                      have t3 : (n < 0) = False := eq_false (by omega)
                      have E9 : Aside0 (wrap64 (((q + k + i : Nat) : Int) + 1 + n) = ((q + k + i : Nat) : Int) + 1 + n - 18446744073709551616) := ⟨wrap64_big _ (by omega) (by omega)⟩
                      have E10 : Aside0 (wrap64 ((q : Int) + k + i + 1 + n) = (q : Int) + k + i + 1 + n - 18446744073709551616) := ⟨wrap64_big _ (by omega) (by omega)⟩
                      have t4 : (((q + k + i : Nat) : Int) + 1 + n - 18446744073709551616 < 0) = True := eq_true (by omega)
                      have t5 : ((q : Int) + k + i + 1 + n - 18446744073709551616 < 0) = True := eq_true (by omega)
                      clear he1 he2 hc
                      have e8 := E8.out; have e9 := E9.out; have e10 := E10.out
                      go_wp2
                      repeat (go_quiet (fail); try go_wp2)
                      go_ret
                      exact ⟨by first | exact HG.out | (exact HG.out.trans ⟨rfl, rfl, rfl, Nat.le_refl _, fun _ _ _ => rfl⟩), .inl ⟨HBAD.out, _, _, rfl⟩⟩
                    · have HM := Aside0.mk (HI.out.trans (rv_more hlt2 h10 h128))
                      generalize hc : zs.getD (q + k + i) 0 = c at hx hr1 h128 hmask HM
                      clear hc
                      go_wp2
                      go_roundw
                      case rel => exact ⟨i + 1, _, by omega, by omega, by go_num, rfl, by go_num, ⟨HM.out⟩, (by first | rfl | trivial)⟩
                      case measure => simp [intOf]; omega
                · have HM := Aside0.mk (HI.out.trans (rv_more hlt2 h10 h128))
                  generalize hc : zs.getD (q + i) 0 = c at hx hr1 h128 hmask HM
                  clear hc
                  go_wp2
                  go_roundw
                  case rel => exact ⟨i + 1, _, by omega, by omega, by go_num, rfl, by go_num, ⟨HM.out⟩, (by first | rfl | trivial)⟩
                  case measure => simp [intOf]; omega
          ·
            obtain ⟨e0, p0, e1, p1, e2, p2, g0, g1, g2⟩ := HGE.out
            have bk0 : (v % 8 == 0) = false := beq_eq_false_iff_ne.2 (by omega)
            have bk1 : (v % 8 == 1) = false := beq_eq_false_iff_ne.2 (by omega)
            have bk2 : (v % 8 == 2) = true := beq_iff_eq.2 (by omega)
            have bk3 : (v % 8 == 3) = false := beq_eq_false_iff_ne.2 (by omega)
            have bk4 : (v % 8 == 4) = false := beq_eq_false_iff_ne.2 (by omega)
            have bk5 : (v % 8 == 5) = false := beq_eq_false_iff_ne.2 (by omega)
            have bf1 : (v / 8 == 1) = false := beq_eq_false_iff_ne.2 (by omega)
            have bf2 : (v / 8 == 2) = false := beq_eq_false_iff_ne.2 (by omega)
            have bf3 : (v / 8 == 3) = true := beq_iff_eq.2 (by omega)
            as_aux_lemma =>
              go_wp2
              go_loopw [6, 8, 9] (fun p a sh wi => ∃ (i : Nat) (X : Int), q + i ≤ zs.length ∧ i ≤ 10 ∧ p = .int .i64 ((q + i : Nat) : Int) ∧ a = .int .u64 X ∧ sh = .int .u64 ((7 * i : Nat) : Int) ∧ Aside0 (rv 0 0 (zs.drop (q)) = rv i X (zs.drop (q + i))) ∧ wi = wr) (fun p _ _ _ => zs.length - (intOf p).toNat)
              case atStart => exact ⟨0, 0, by omega, by omega, by go_num, rfl, rfl, ⟨rfl⟩, rfl⟩
              case round =>
                obtain ⟨i, X, hi, hi10, rfl, rfl, rfl, HI, rfl⟩ := hrel
                have h10 : i ≠ 10 := fun e => by subst e; have := HV0.out.symm.trans (HI.out.trans (rv_ten' _ _)); simp at this
                have t1 : ((64 : Int) ≤ ((7 * i : Nat) : Int)) = False := eq_false (by omega)
                have hlt2 : q + i < zs.length := by
                  rcases Nat.lt_or_ge (q + i) zs.length with h | h
                  · exact h
                  · have := HV0.out.symm.trans (HI.out.trans (by rw [List.drop_eq_nil_of_le h, rv_nil])); simp at this
                have t2 : ((zs.length : Int) ≤ ((q + i : Nat) : Int)) = False := eq_false (by omega)
                have hx := HBy.out (q + i) hlt2
                have hr1 := HR.out (q + i)
                have hmask := mask8 hr1.1 hr1.2
                by_cases h128 : zs.getD (q + i) 0 < 128
                · have he := HV0.out.symm.trans (HI.out.trans (rv_last hlt2 h10 h128))
                  injection he with he; injection he with he1 he2
                  have HA1 := Aside0.mk he1
                  clear he1
                  generalize hc : zs.getD (q + i) 0 = c at hx hr1 h128 hmask HA1
                  have he3 : bits .or .u64 X (IntKind.u64.wrap (c % 128 * 2 ^ (7 * i))) = v := HA1.out.symm
                  have e32 := E32.out
                  have HK := Aside0.mk he2
                  clear hc HA1 he2
                  go_wp2
                  clear hx hr1 h128 hmask he3 t1 t2 e32
                  go_loopw [6, 17, 18] (fun p a sh wi => ∃ (i : Nat) (X : Int), q + k + i ≤ zs.length ∧ i ≤ 10 ∧ p = .int .i64 ((q + k + i : Nat) : Int) ∧ a = .int .u64 X ∧ sh = .int .u64 ((7 * i : Nat) : Int) ∧ Aside0 (rv 0 0 (zs.drop (q + k)) = rv i X (zs.drop (q + k + i))) ∧ wi = wr) (fun p _ _ _ => zs.length - (intOf p).toNat)
                  case atStart => exact ⟨0, 0, by omega, by omega, (by have := HK.out; simp; omega), rfl, rfl, ⟨rfl⟩, rfl⟩
                  case round =>
                    obtain ⟨i, X, hi, hi10, rfl, rfl, rfl, HI, rfl⟩ := hrel
                    have h10 : i ≠ 10 := fun e => by subst e; have := HV2.out.symm.trans (HI.out.trans (rv_ten' _ _)); simp at this
                    have t1 : ((64 : Int) ≤ ((7 * i : Nat) : Int)) = False := eq_false (by omega)
                    have hlt2 : q + k + i < zs.length := by
                      rcases Nat.lt_or_ge (q + k + i) zs.length with h | h
                      · exact h
                      · have := HV2.out.symm.trans (HI.out.trans (by rw [List.drop_eq_nil_of_le h, rv_nil])); simp at this
                    have t2 : ((zs.length : Int) ≤ ((q + k + i : Nat) : Int)) = False := eq_false (by omega)
                    have hx := HBy.out (q + k + i) hlt2
                    have hr1 := HR.out (q + k + i)
                    have hmask := mask8 hr1.1 hr1.2
                    by_cases h128 : zs.getD (q + k + i) 0 < 128
                    · have he := HV2.out.symm.trans (HI.out.trans (rv_last hlt2 h10 h128))
                      injection he with he; injection he with he1 he2
                      generalize hc : zs.getD (q + k + i) 0 = c at hx hr1 h128 hmask he1
                      have he3 : bits .or .u64 X (IntKind.u64.wrap (c % 128 * 2 ^ (7 * i))) = n := he1.symm
                      have HJ := Aside0.mk he2
                      have E8 : Aside0 (wrap64 n = n) := ⟨IntWalk.wrap64_in _ ⟨by omega, by omega⟩⟩
                      have t3 : (n < 0) = False := eq_false (by omega)
                      have E9 : Aside0 (wrap64 (((q + k + i : Nat) : Int) + 1 + n) = ((q + k + i : Nat) : Int) + 1 + n) := ⟨IntWalk.wrap64_in _ ⟨by omega, by omega⟩⟩
                      have E10 : Aside0 (wrap64 ((q : Int) + k + i + 1 + n) = (q : Int) + k + i + 1 + n) := ⟨IntWalk.wrap64_in _ ⟨by omega, by omega⟩⟩
                      have t4 : (((q + k + i : Nat) : Int) + 1 + n < 0) = False := eq_false (by omega)
                      have t5 : ((q : Int) + k + i + 1 + n < 0) = False := eq_false (by omega)
                      have t6 : ((zs.length : Int) < ((q + k + i : Nat) : Int) + 1 + n) = True := eq_true (by omega)
                      have t7 : ((zs.length : Int) < (q : Int) + k + i + 1 + n) = True := eq_true (by omega)
                      clear he1 he2 hc
                      have e8 := E8.out; have e9 := E9.out; have e10 := E10.out
                      go_wp2
                      repeat (go_quiet (fail); try go_wp2)
                      go_ret
                      exact ⟨by first | exact HG.out | (exact HG.out.trans ⟨rfl, rfl, rfl, Nat.le_refl _, fun _ _ _ => rfl⟩), .inl ⟨HBAD.out, _, _, rfl⟩⟩
                    · have HM := Aside0.mk (HI.out.trans (rv_more hlt2 h10 h128))
                      generalize hc : zs.getD (q + k + i) 0 = c at hx hr1 h128 hmask HM
                      clear hc
                      go_wp2
                      go_roundw
                      case rel => exact ⟨i + 1, _, by omega, by omega, by go_num, rfl, by go_num, ⟨HM.out⟩, (by first | rfl | trivial)⟩
                      case measure => simp [intOf]; omega
                · have HM := Aside0.mk (HI.out.trans (rv_more hlt2 h10 h128))
                  generalize hc : zs.getD (q + i) 0 = c at hx hr1 h128 hmask HM
                  clear hc
                  go_wp2
                  go_roundw
                  case rel => exact ⟨i + 1, _, by omega, by omega, by go_num, rfl, by go_num, ⟨HM.out⟩, (by first | rfl | trivial)⟩
                  case measure => simp [intOf]; omega
    · have z0 : ((q : Int) < (zs.length : Int)) = False := eq_false (by omega)
      have z1 : ((zs.length : Int) < (q : Int)) = False := eq_false (by omega)
      go_wp2
      go_ret
      exact ⟨HG.out, .inr ⟨x, HV.out.trans (by obtain ⟨r, rfl⟩ : ∃ r, m = r + 1 := ⟨m - 1, by omega⟩; rw [List.drop_eq_nil_of_le (by omega)]; rfl), rfl, HC.out⟩⟩
end Go.Proofs.YtihlmkgffifknaaDoor.Read
