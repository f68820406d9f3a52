/- The reader of the fields: what the package skips. -/
import Derived.Test.YtihlmkgffifknaaDoorReadX
set_option linter.unusedVariables false
set_option linter.unusedSimpArgs false
namespace Go.Proofs.YtihlmkgffifknaaDoor.Read
open Go Go.Sort Go.RowKit Go.Proofs.YtihlmkgffifknaaDoorW.PrintWords

theorem mask8 {c : Int} (h0 : 0 ≤ c) (h1 : c ≤ 255) : bits .and .u8 c 127 = c % 128 := bits_mask .u8 8 (by decide) wraps_u8 7 (by decide) c h0 (by omega)
theorem mask64 {c : Int} (h0 : 0 ≤ c) (h1 : c ≤ 255) : bits .and .u64 c 127 = c % 128 := bits_mask .u64 64 (by decide) wraps_u64 7 (by decide) c h0 (by omega)
theorem wraps_i64 (n : Int) (h₀ : 0 ≤ n) (h₁ : n < 2 ^ 63) : IntKind.i64.wrap n = n := by rw [IntKind.wrap_i64]; omega
theorem maskI {c : Int} (h0 : 0 ≤ c) (h1 : c ≤ 255) : bits .and .i64 c 127 = c % 128 := bits_mask .i64 63 (by decide) wraps_i64 7 (by decide) c h0 (by omega)
theorem mask7 {v : Int} (h0 : 0 ≤ v) (h1 : v < 18446744073709551616) : bits .and .u64 v 7 = v % 8 := bits_mask .u64 64 (by decide) wraps_u64 3 (by decide) v h0 (by omega)
theorem ofInt_eq {n : Nat} {x y : Int} (h : x % (2 ^ n : Nat) = y % (2 ^ n : Nat)) : BitVec.ofInt n x = BitVec.ofInt n y := by
  apply BitVec.eq_of_toNat_eq
  rw [BitVec.toNat_ofInt, BitVec.toNat_ofInt, h]
theorem wrap64_mod (x : Int) : wrap64 x % 18446744073709551616 = x % 18446744073709551616 := by
  rw [← IntWalk.i64_left, IntKind.wrap_i64]; omega
theorem wrap32_mod (x : Int) : wrap32 x % 4294967296 = x % 4294967296 := by
  rw [← IntWalk.i32_left, IntKind.wrap_i32]; omega
theorem wrap64_cong {x y : Int} (h : x % 18446744073709551616 = y % 18446744073709551616) : wrap64 x = wrap64 y := by
  rw [← IntWalk.i64_left, ← IntWalk.i64_left, IntKind.wrap_i64, IntKind.wrap_i64]; omega
theorem wrap32_cong {x y : Int} (h : x % 4294967296 = y % 4294967296) : wrap32 x = wrap32 y := by
  rw [← IntWalk.i32_left, ← IntWalk.i32_left, IntKind.wrap_i32, IntKind.wrap_i32]; omega
theorem wrap64_big (x : Int) (h0 : 9223372036854775807 < x) (h1 : x < 18446744073709551616 + 9223372036854775808) : wrap64 x = x - 18446744073709551616 := by
  rw [← IntWalk.i64_left, IntKind.wrap_i64]; omega
/-- The same bits, as a number with a sign. -/
theorem or64 (X : Int) (i : Nat) (c : Int) (_ : 0 ≤ c) (_ : c ≤ 255) : bits .or .i64 (wrap64 X) (wrap64 (c % 128 * 2 ^ (7 * i))) = wrap64 (vacc X i c) := by
  unfold vacc bits
  show IntKind.i64.wrap ((BitVec.ofInt 64 (wrap64 X) ||| BitVec.ofInt 64 (wrap64 (c % 128 * 2 ^ (7 * i)))).toNat : Int) = _
  rw [ofInt_eq (x := wrap64 X) (y := X) (wrap64_mod X), ofInt_eq (x := wrap64 (c % 128 * 2 ^ (7 * i))) (y := IntKind.u64.wrap (c % 128 * 2 ^ (7 * i))) (by rw [IntKind.wrap_u64]; exact (wrap64_mod _).trans (Int.emod_emod_of_dvd _ (Int.dvd_refl _)).symm), IntWalk.i64_left]
  apply wrap64_cong
  rw [IntKind.wrap_u64]
  exact (Int.emod_emod_of_dvd _ (Int.dvd_refl _)).symm
theorem or32 (X : Int) (i : Nat) (c : Int) (_ : 0 ≤ c) (_ : c ≤ 255) : bits .or .i32 (wrap32 X) (wrap32 (c % 128 * 2 ^ (7 * i))) = wrap32 (vacc X i c) := by
  unfold vacc bits
  show IntKind.i32.wrap ((BitVec.ofInt 32 (wrap32 X) ||| BitVec.ofInt 32 (wrap32 (c % 128 * 2 ^ (7 * i)))).toNat : Int) = _
  rw [ofInt_eq (x := wrap32 X) (y := X) (wrap32_mod X), ofInt_eq (n := 32) (x := wrap32 (c % 128 * 2 ^ (7 * i))) (y := IntKind.u64.wrap (c % 128 * 2 ^ (7 * i))) (by rw [IntKind.wrap_u64]; exact (wrap32_mod _).trans (Int.emod_emod_of_dvd _ (by decide)).symm), IntWalk.i32_left]
  apply wrap32_cong
  generalize IntKind.u64.wrap (c % 128 * 2 ^ (7 * i)) = Y
  rw [IntKind.wrap_u64]
  show ((BitVec.ofInt 32 X ||| BitVec.ofInt 32 Y).toNat : Int) % 4294967296 = ((BitVec.ofInt 64 X ||| BitVec.ofInt 64 Y).toNat : Int) % 18446744073709551616 % 4294967296
  rw [Int.emod_emod_of_dvd _ (by decide), BitVec.toNat_or, BitVec.toNat_or]
  have e (Z : Int) : (BitVec.ofInt 32 Z).toNat = (BitVec.ofInt 64 Z).toNat % 2 ^ 32 := by
    rw [BitVec.toNat_ofInt, BitVec.toNat_ofInt]; omega
  rw [e X, e Y, ← Nat.or_mod_two_pow]
  generalize (BitVec.ofInt 64 X).toNat ||| (BitVec.ofInt 64 Y).toNat = x
  omega
def GErr (w : World) : Prop := ∃ t0 v0 t1 v1 t2 v2, w.cell? ⟨0, 0, none⟩ = some (.iface t0 v0) ∧ w.cell? ⟨1, 0, none⟩ = some (.iface t1 v1) ∧ w.cell? ⟨2, 0, none⟩ = some (.iface t2 v2)
theorem GErr.below {w w' : World} (h : GErr w) (hb : Below w.heap.size w w') : GErr w' := by
  obtain ⟨t0, v0, t1, v1, t2, v2, h0, h1, h2⟩ := h
  exact ⟨t0, v0, t1, v1, t2, v2, (hb.cell (World.block_lt_of_cell? w _ h0)).trans h0, (hb.cell (World.block_lt_of_cell? w _ h1)).trans h1, (hb.cell (World.block_lt_of_cell? w _ h2)).trans h2⟩
theorem rv_nil (i : Nat) (X : Int) : rv i X [] = none := by rw [rv]
theorem rv_ten' (X : Int) (l : List Int) : rv 10 X l = none := by cases l <;> simp [rv]
theorem rv_last {zs : List Int} {i : Nat} {X : Int} {p : Nat} (h : p < zs.length) (h10 : i ≠ 10) (h128 : zs.getD p 0 < 128) : rv i X (zs.drop p) = some (vacc X i (zs.getD p 0), i + 1) := by
  rw [drop_at h, rv, if_neg h10, if_pos h128]
theorem rv_more {zs : List Int} {i : Nat} {X : Int} {p : Nat} (h : p < zs.length) (h10 : i ≠ 10) (h128 : ¬ zs.getD p 0 < 128) : rv i X (zs.drop p) = rv (i + 1) (vacc X i (zs.getD p 0)) (zs.drop (p + 1)) := by
  rw [drop_at h, rv, if_neg h10, if_neg h128]

set_option maxRecDepth 100000 in
set_option maxHeartbeats 4000000 in
theorem skip_one (b A cp : Nat) (ys : List Int) (w : World) (hz : BytesAt w b A ys) (hr : Bys ys) (hmax : ys.length ≤ 2147483647) (v : Int) (k : Nat) (hv : rv 0 0 ys = some (v, k)) (hK : v % 8 = 1) :
    Calls Tryd.prog 30 #[.slice (some ⟨b, A, none⟩) ys.length cp] w fun e w' => e = .returned (.tuple #[.int .i64 ((k + 8 : Nat) : Int), .nilIface]) ∧ Below w.heap.size w w' := by
  have mixed : Tryd.prog.follows .mixedOrders = true := by kernel_rfl
  obtain ⟨⟨v0, v1⟩, k0, k1⟩ := rv_range ys 0 0 v k hv
  have HZ := Aside0.mk hz
  have HR := Aside0.mk hr
  have HV0 := Aside0.mk hv
  have hm7 := mask7 v0 v1
  have q0 : ((0 : Int) < (ys.length : Int)) = True := eq_true (by omega)
  clear hz hr hv
  go_enter Tryd.func30, Tryd.ntmps30
  go_wp2
  refine wp_loop_rounds 1 ?_
  rw [rounds_succ]
  go_wp2
  go_loopw [5, 7, 8] (fun p x sh wr => ∃ (i : Nat) (X : Int), i ≤ ys.length ∧ i ≤ 10 ∧ p = .int .i64 i ∧ x = .int .u64 X ∧ sh = .int .u64 ((7 * i : Nat) : Int) ∧ Aside0 (rv 0 0 ys = rv i X (ys.drop i)) ∧ Aside0 (Below w.heap.size w wr)) (fun p _ _ _ => ys.length - (intOf p).toNat)
  case atStart => exact ⟨0, 0, by omega, by omega, rfl, rfl, rfl, ⟨rfl⟩, ⟨Below.refl _ _⟩⟩
  case round =>
    obtain ⟨i, X, hi, hi10, rfl, rfl, rfl, HV, HB⟩ := hrel
    have h10 : i ≠ 10 := fun e => by subst e; have := HV0.out.symm.trans (HV.out.trans (rv_ten' _ _)); simp at this
    have hlt : i < ys.length := by
      rcases Nat.lt_or_ge i ys.length with h | h
      · exact h
      · have := HV0.out.symm.trans (HV.out.trans (by rw [List.drop_eq_nil_of_le h, rv_nil])); simp at this
    have t1 : ((64 : Int) ≤ ((7 * i : Nat) : Int)) = False := eq_false (by omega)
    have t2 : ((ys.length : Int) ≤ (i : Int)) = False := eq_false (by omega)
    have hx := HZ.out.below HB.out i hlt
    have hr1 := HR.out i
    have hmask := mask64 hr1.1 hr1.2
    by_cases h128 : ys.getD i 0 < 128
    · have he := HV0.out.symm.trans (HV.out.trans (rv_last hlt h10 h128))
      injection he with he; injection he with he1 he2
      have HA1 := Aside0.mk he1
      have HA2 := Aside0.mk he2
      clear he1 he2
      generalize hc : ys.getD i 0 = c at hx hr1 h128 hmask HA1
      have he3 : bits .or .u64 X (IntKind.u64.wrap (c % 128 * 2 ^ (7 * i))) = v := HA1.out.symm
      have bk0 : (v % 8 == 0) = false := beq_eq_false_iff_ne.2 (by omega)
      have bk1 : (v % 8 == 1) = true := beq_iff_eq.2 (by omega)
      have bk2 : (v % 8 == 2) = false := beq_eq_false_iff_ne.2 (by omega)
      have bk3 : (v % 8 == 3) = false := beq_eq_false_iff_ne.2 (by omega)
      have bk4 : (v % 8 == 4) = false := beq_eq_false_iff_ne.2 (by omega)
      have bk5 : (v % 8 == 5) = false := beq_eq_false_iff_ne.2 (by omega)
      have t3 : ((i : Int) + 1 + 8 < 0) = False := eq_false (by omega)
      clear hc HA1
      go_wp2
      go_ret2
      exact ⟨by rw [HA2.out]; simp, HB.out⟩
    · have HM := Aside0.mk (HV.out.trans (rv_more hlt h10 h128))
      generalize hc : ys.getD i 0 = c at hx hr1 h128 hmask HM
      clear hc
      go_wp2
      go_roundw
      case rel => exact ⟨i + 1, _, by omega, by omega, by go_num, rfl, by go_num, ⟨HM.out⟩, HB⟩
      case measure => simp [intOf]; omega
set_option maxRecDepth 100000 in
set_option maxHeartbeats 4000000 in
theorem skip_five (b A cp : Nat) (ys : List Int) (w : World) (hz : BytesAt w b A ys) (hr : Bys ys) (hmax : ys.length ≤ 2147483647) (v : Int) (k : Nat) (hv : rv 0 0 ys = some (v, k)) (hK : v % 8 = 5) :
    Calls Tryd.prog 30 #[.slice (some ⟨b, A, none⟩) ys.length cp] w fun e w' => e = .returned (.tuple #[.int .i64 ((k + 4 : Nat) : Int), .nilIface]) ∧ Below w.heap.size w w' := by
  have mixed : Tryd.prog.follows .mixedOrders = true := by kernel_rfl
  obtain ⟨⟨v0, v1⟩, k0, k1⟩ := rv_range ys 0 0 v k hv
  have HZ := Aside0.mk hz
  have HR := Aside0.mk hr
  have HV0 := Aside0.mk hv
  have hm7 := mask7 v0 v1
  have q0 : ((0 : Int) < (ys.length : Int)) = True := eq_true (by omega)
  clear hz hr hv
  go_enter Tryd.func30, Tryd.ntmps30
  go_wp2
  refine wp_loop_rounds 1 ?_
  rw [rounds_succ]
  go_wp2
  go_loopw [5, 7, 8] (fun p x sh wr => ∃ (i : Nat) (X : Int), i ≤ ys.length ∧ i ≤ 10 ∧ p = .int .i64 i ∧ x = .int .u64 X ∧ sh = .int .u64 ((7 * i : Nat) : Int) ∧ Aside0 (rv 0 0 ys = rv i X (ys.drop i)) ∧ Aside0 (Below w.heap.size w wr)) (fun p _ _ _ => ys.length - (intOf p).toNat)
  case atStart => exact ⟨0, 0, by omega, by omega, rfl, rfl, rfl, ⟨rfl⟩, ⟨Below.refl _ _⟩⟩
  case round =>
    obtain ⟨i, X, hi, hi10, rfl, rfl, rfl, HV, HB⟩ := hrel
    have h10 : i ≠ 10 := fun e => by subst e; have := HV0.out.symm.trans (HV.out.trans (rv_ten' _ _)); simp at this
    have hlt : i < ys.length := by
      rcases Nat.lt_or_ge i ys.length with h | h
      · exact h
      · have := HV0.out.symm.trans (HV.out.trans (by rw [List.drop_eq_nil_of_le h, rv_nil])); simp at this
    have t1 : ((64 : Int) ≤ ((7 * i : Nat) : Int)) = False := eq_false (by omega)
    have t2 : ((ys.length : Int) ≤ (i : Int)) = False := eq_false (by omega)
    have hx := HZ.out.below HB.out i hlt
    have hr1 := HR.out i
    have hmask := mask64 hr1.1 hr1.2
    by_cases h128 : ys.getD i 0 < 128
    · have he := HV0.out.symm.trans (HV.out.trans (rv_last hlt h10 h128))
      injection he with he; injection he with he1 he2
      have HA1 := Aside0.mk he1
      have HA2 := Aside0.mk he2
      clear he1 he2
      generalize hc : ys.getD i 0 = c at hx hr1 h128 hmask HA1
      have he3 : bits .or .u64 X (IntKind.u64.wrap (c % 128 * 2 ^ (7 * i))) = v := HA1.out.symm
      have bk0 : (v % 8 == 0) = false := beq_eq_false_iff_ne.2 (by omega)
      have bk1 : (v % 8 == 1) = false := beq_eq_false_iff_ne.2 (by omega)
      have bk2 : (v % 8 == 2) = false := beq_eq_false_iff_ne.2 (by omega)
      have bk3 : (v % 8 == 3) = false := beq_eq_false_iff_ne.2 (by omega)
      have bk4 : (v % 8 == 4) = false := beq_eq_false_iff_ne.2 (by omega)
      have bk5 : (v % 8 == 5) = true := beq_iff_eq.2 (by omega)
      have t3 : ((i : Int) + 1 + 4 < 0) = False := eq_false (by omega)
      clear hc HA1
      go_wp2
      go_ret2
      exact ⟨by rw [HA2.out]; simp, HB.out⟩
    · have HM := Aside0.mk (HV.out.trans (rv_more hlt h10 h128))
      generalize hc : ys.getD i 0 = c at hx hr1 h128 hmask HM
      clear hc
      go_wp2
      go_roundw
      case rel => exact ⟨i + 1, _, by omega, by omega, by go_num, rfl, by go_num, ⟨HM.out⟩, HB⟩
      case measure => simp [intOf]; omega
set_option maxRecDepth 100000 in
set_option maxHeartbeats 4000000 in
theorem skip_num (b A cp : Nat) (ys : List Int) (w : World) (hz : BytesAt w b A ys) (hr : Bys ys) (hmax : ys.length ≤ 2147483647) (v : Int) (k : Nat) (hv : rv 0 0 ys = some (v, k)) (hK : v % 8 = 0) (n : Int) (j : Nat) (hv2 : rv 0 0 (ys.drop k) = some (n, j)) :
    Calls Tryd.prog 30 #[.slice (some ⟨b, A, none⟩) ys.length cp] w fun e w' => e = .returned (.tuple #[.int .i64 ((k + j : Nat) : Int), .nilIface]) ∧ Below w.heap.size w w' := by
  have mixed : Tryd.prog.follows .mixedOrders = true := by kernel_rfl
  obtain ⟨⟨v0, v1⟩, k0, k1⟩ := rv_range ys 0 0 v k hv
  have HZ := Aside0.mk hz
  have HR := Aside0.mk hr
  have HV0 := Aside0.mk hv
  have hm7 := mask7 v0 v1
  have q0 : ((0 : Int) < (ys.length : Int)) = True := eq_true (by omega)
  clear hz hr hv
  have HV2 := Aside0.mk hv2
  clear hv2
  go_enter Tryd.func30, Tryd.ntmps30
  go_wp2
  refine wp_loop_rounds 1 ?_
  rw [rounds_succ]
  go_wp2
  go_loopw [5, 7, 8] (fun p x sh wr => ∃ (i : Nat) (X : Int), i ≤ ys.length ∧ i ≤ 10 ∧ p = .int .i64 i ∧ x = .int .u64 X ∧ sh = .int .u64 ((7 * i : Nat) : Int) ∧ Aside0 (rv 0 0 ys = rv i X (ys.drop i)) ∧ Aside0 (Below w.heap.size w wr)) (fun p _ _ _ => ys.length - (intOf p).toNat)
  case atStart => exact ⟨0, 0, by omega, by omega, rfl, rfl, rfl, ⟨rfl⟩, ⟨Below.refl _ _⟩⟩
  case round =>
    obtain ⟨i, X, hi, hi10, rfl, rfl, rfl, HV, HB⟩ := hrel
    have h10 : i ≠ 10 := fun e => by subst e; have := HV0.out.symm.trans (HV.out.trans (rv_ten' _ _)); simp at this
    have hlt : i < ys.length := by
      rcases Nat.lt_or_ge i ys.length with h | h
      · exact h
      · have := HV0.out.symm.trans (HV.out.trans (by rw [List.drop_eq_nil_of_le h, rv_nil])); simp at this
    have t1 : ((64 : Int) ≤ ((7 * i : Nat) : Int)) = False := eq_false (by omega)
    have t2 : ((ys.length : Int) ≤ (i : Int)) = False := eq_false (by omega)
    have hx := HZ.out.below HB.out i hlt
    have hr1 := HR.out i
    have hmask := mask64 hr1.1 hr1.2
    by_cases h128 : ys.getD i 0 < 128
    · have he := HV0.out.symm.trans (HV.out.trans (rv_last hlt h10 h128))
      injection he with he; injection he with he1 he2
      have HA1 := Aside0.mk he1
      have HA2 := Aside0.mk he2
      clear he1 he2
      generalize hc : ys.getD i 0 = c at hx hr1 h128 hmask HA1
      have he3 : bits .or .u64 X (IntKind.u64.wrap (c % 128 * 2 ^ (7 * i))) = v := HA1.out.symm
      have bk0 : (v % 8 == 0) = true := beq_iff_eq.2 (by omega)
      have bk1 : (v % 8 == 1) = false := beq_eq_false_iff_ne.2 (by omega)
      have bk2 : (v % 8 == 2) = false := beq_eq_false_iff_ne.2 (by omega)
      have bk3 : (v % 8 == 3) = false := beq_eq_false_iff_ne.2 (by omega)
      have bk4 : (v % 8 == 4) = false := beq_eq_false_iff_ne.2 (by omega)
      have bk5 : (v % 8 == 5) = false := beq_eq_false_iff_ne.2 (by omega)
      obtain rfl := HA2.out
      clear hc HA1 HA2
      go_wp2
      have HBa := HB
      clear HB HV hx hr1 t1 t2 h128 hmask he3
      go_loopw [5, 11] (fun p sh wr => ∃ (q : Nat) (Y : Int), i + 1 + q ≤ ys.length ∧ q ≤ 10 ∧ p = .int .i64 ((i + 1 + q : Nat) : Int) ∧ sh = .int .u64 ((7 * q : Nat) : Int) ∧ Aside0 (rv 0 0 (ys.drop (i + 1)) = rv q Y (ys.drop (i + 1 + q))) ∧ Aside0 (Below w.heap.size w wr)) (fun p _ _ => ys.length - (intOf p).toNat)
      case atStart => exact ⟨0, 0, by omega, by omega, by go_num, rfl, ⟨rfl⟩, HBa⟩
      case round =>
        clear HBa
        obtain ⟨q, Y, hq, hq10, rfl, rfl, HV, HB⟩ := hrel
        by_cases h10 : q = 10
        · exfalso; subst h10; have := HV2.out.symm.trans (HV.out.trans (rv_ten' _ _)); simp at this
        have t1 : ((64 : Int) ≤ ((7 * q : Nat) : Int)) = False := eq_false (by omega)
        by_cases hlt2 : i + 1 + q < ys.length
        · have t2 : ((ys.length : Int) ≤ ((i + 1 + q : Nat) : Int)) = False := eq_false (by omega)
          have hx := HZ.out.below HB.out (i + 1 + q) hlt2
          have hr1 := HR.out (i + 1 + q)
          have e7 : wrap64 (((i + 1 + q : Nat) : Int) + 1 - 1) = ((i + 1 + q : Nat) : Int) := IntWalk.wrap64_in _ ⟨by omega, by omega⟩ |>.trans (by omega)
          by_cases h128 : ys.getD (i + 1 + q) 0 < 128
          · have he := HV2.out.symm.trans (HV.out.trans (rv_last hlt2 h10 h128))
            injection he with he; injection he with he1 he2
            clear he1
            have HE2 := Aside0.mk he2
            clear he2
            generalize hc : ys.getD (i + 1 + q) 0 = c at hx hr1 h128
            clear hc HV
            have t3 : (((i + 1 + q : Nat) : Int) + 1 < 0) = False := eq_false (by omega)
            go_wp2
            go_ret2
            exact ⟨by rw [HE2.out]; simp; omega, HB.out⟩
          · have HM := Aside0.mk (HV.out.trans (rv_more hlt2 h10 h128))
            generalize hc : ys.getD (i + 1 + q) 0 = c at hx hr1 h128 HM
            clear hc
            go_wp2
            go_roundw
            case rel => exact ⟨q + 1, _, by omega, by omega, by go_num, by go_num, ⟨HM.out⟩, HB⟩
            case measure => simp [intOf]; omega
        · exfalso; have := HV2.out.symm.trans (HV.out.trans (by rw [List.drop_eq_nil_of_le (by omega), rv_nil])); simp at this
    · have HM := Aside0.mk (HV.out.trans (rv_more hlt h10 h128))
      generalize hc : ys.getD i 0 = c at hx hr1 h128 hmask HM
      clear hc
      go_wp2
      go_roundw
      case rel => exact ⟨i + 1, _, by omega, by omega, by go_num, rfl, by go_num, ⟨HM.out⟩, HB⟩
      case measure => simp [intOf]; omega
set_option maxRecDepth 100000 in
set_option maxHeartbeats 4000000 in
theorem skip_num_bad (b A cp : Nat) (ys : List Int) (w : World) (hz : BytesAt w b A ys) (hr : Bys ys) (hmax : ys.length ≤ 2147483647) (v : Int) (k : Nat) (hv : rv 0 0 ys = some (v, k)) (hK : v % 8 = 0) (hv2 : rv 0 0 (ys.drop k) = none) (hg : GErr w) :
    Calls Tryd.prog 30 #[.slice (some ⟨b, A, none⟩) ys.length cp] w fun e w' => (∃ t u, e = .returned (.tuple #[.int .i64 0, .iface t u])) ∧ Below w.heap.size w w' := by
  have mixed : Tryd.prog.follows .mixedOrders = true := by kernel_rfl
  obtain ⟨⟨v0, v1⟩, k0, k1⟩ := rv_range ys 0 0 v k hv
  have HZ := Aside0.mk hz
  have HR := Aside0.mk hr
  have HV0 := Aside0.mk hv
  have HG := Aside0.mk hg
  have hm7 := mask7 v0 v1
  have q0 : ((0 : Int) < (ys.length : Int)) = True := eq_true (by omega)
  clear hz hr hv hg
  have HV2 := Aside0.mk hv2
  clear hv2
  go_enter Tryd.func30, Tryd.ntmps30
  go_wp2
  refine wp_loop_rounds 1 ?_
  rw [rounds_succ]
  go_wp2
  go_loopw [5, 7, 8] (fun p x sh wr => ∃ (i : Nat) (X : Int), i ≤ ys.length ∧ i ≤ 10 ∧ p = .int .i64 i ∧ x = .int .u64 X ∧ sh = .int .u64 ((7 * i : Nat) : Int) ∧ Aside0 (rv 0 0 ys = rv i X (ys.drop i)) ∧ Aside0 (Below w.heap.size w wr)) (fun p _ _ _ => ys.length - (intOf p).toNat)
  case atStart => exact ⟨0, 0, by omega, by omega, rfl, rfl, rfl, ⟨rfl⟩, ⟨Below.refl _ _⟩⟩
  case round =>
    obtain ⟨i, X, hi, hi10, rfl, rfl, rfl, HV, HB⟩ := hrel
    have h10 : i ≠ 10 := fun e => by subst e; have := HV0.out.symm.trans (HV.out.trans (rv_ten' _ _)); simp at this
    have hlt : i < ys.length := by
      rcases Nat.lt_or_ge i ys.length with h | h
      · exact h
      · have := HV0.out.symm.trans (HV.out.trans (by rw [List.drop_eq_nil_of_le h, rv_nil])); simp at this
    have t1 : ((64 : Int) ≤ ((7 * i : Nat) : Int)) = False := eq_false (by omega)
    have t2 : ((ys.length : Int) ≤ (i : Int)) = False := eq_false (by omega)
    have hx := HZ.out.below HB.out i hlt
    have hr1 := HR.out i
    have hmask := mask64 hr1.1 hr1.2
    by_cases h128 : ys.getD i 0 < 128
    · have he := HV0.out.symm.trans (HV.out.trans (rv_last hlt h10 h128))
      injection he with he; injection he with he1 he2
      have HA1 := Aside0.mk he1
      have HA2 := Aside0.mk he2
      clear he1 he2
      generalize hc : ys.getD i 0 = c at hx hr1 h128 hmask HA1
      have he3 : bits .or .u64 X (IntKind.u64.wrap (c % 128 * 2 ^ (7 * i))) = v := HA1.out.symm
      have bk0 : (v % 8 == 0) = true := beq_iff_eq.2 (by omega)
      have bk1 : (v % 8 == 1) = false := beq_eq_false_iff_ne.2 (by omega)
      have bk2 : (v % 8 == 2) = false := beq_eq_false_iff_ne.2 (by omega)
      have bk3 : (v % 8 == 3) = false := beq_eq_false_iff_ne.2 (by omega)
      have bk4 : (v % 8 == 4) = false := beq_eq_false_iff_ne.2 (by omega)
      have bk5 : (v % 8 == 5) = false := beq_eq_false_iff_ne.2 (by omega)
      obtain rfl := HA2.out
      clear hc HA1 HA2
      go_wp2
      have HBa := HB
      clear HB HV hx hr1 t1 t2 h128 hmask he3
      go_loopw [5, 11] (fun p sh wr => ∃ (q : Nat) (Y : Int), i + 1 + q ≤ ys.length ∧ q ≤ 10 ∧ p = .int .i64 ((i + 1 + q : Nat) : Int) ∧ sh = .int .u64 ((7 * q : Nat) : Int) ∧ Aside0 (rv 0 0 (ys.drop (i + 1)) = rv q Y (ys.drop (i + 1 + q))) ∧ Aside0 (Below w.heap.size w wr)) (fun p _ _ => ys.length - (intOf p).toNat)
      case atStart => exact ⟨0, 0, by omega, by omega, by go_num, rfl, ⟨rfl⟩, HBa⟩
      case round =>
        clear HBa
        obtain ⟨q, Y, hq, hq10, rfl, rfl, HV, HB⟩ := hrel
        by_cases h10 : q = 10
        · obtain ⟨e0, p0, e1, p1, e2, p2, g0, g1, g2⟩ := HG.out.below HB.out
          have t1 : ((64 : Int) ≤ ((7 * q : Nat) : Int)) = True := eq_true (by omega)
          go_wp2
          repeat (go_quiet (fail); try go_wp2)
          go_ret2
          exact ⟨⟨_, _, rfl⟩, by repeat (first | (with_reducible exact HB.out) | apply pw_below_drewN | apply below_drew1)⟩
        have t1 : ((64 : Int) ≤ ((7 * q : Nat) : Int)) = False := eq_false (by omega)
        by_cases hlt2 : i + 1 + q < ys.length
        · have t2 : ((ys.length : Int) ≤ ((i + 1 + q : Nat) : Int)) = False := eq_false (by omega)
          have hx := HZ.out.below HB.out (i + 1 + q) hlt2
          have hr1 := HR.out (i + 1 + q)
          have e7 : wrap64 (((i + 1 + q : Nat) : Int) + 1 - 1) = ((i + 1 + q : Nat) : Int) := IntWalk.wrap64_in _ ⟨by omega, by omega⟩ |>.trans (by omega)
          by_cases h128 : ys.getD (i + 1 + q) 0 < 128
          · have he := HV2.out.symm.trans (HV.out.trans (rv_last hlt2 h10 h128))
            simp at he
          · have HM := Aside0.mk (HV.out.trans (rv_more hlt2 h10 h128))
            generalize hc : ys.getD (i + 1 + q) 0 = c at hx hr1 h128 HM
            clear hc
            go_wp2
            go_roundw
            case rel => exact ⟨q + 1, _, by omega, by omega, by go_num, by go_num, ⟨HM.out⟩, HB⟩
            case measure => simp [intOf]; omega
        · obtain ⟨e0, p0, e1, p1, e2, p2, g0, g1, g2⟩ := HG.out.below HB.out
          have t2 : ((ys.length : Int) ≤ ((i + 1 + q : Nat) : Int)) = True := eq_true (by omega)
          go_wp2
          repeat (go_quiet (fail); try go_wp2)
          go_ret2
          exact ⟨⟨_, _, rfl⟩, by repeat (first | (with_reducible exact HB.out) | apply pw_below_drewN | apply below_drew1)⟩
    · have HM := Aside0.mk (HV.out.trans (rv_more hlt h10 h128))
      generalize hc : ys.getD i 0 = c at hx hr1 h128 hmask HM
      clear hc
      go_wp2
      go_roundw
      case rel => exact ⟨i + 1, _, by omega, by omega, by go_num, rfl, by go_num, ⟨HM.out⟩, HB⟩
      case measure => simp [intOf]; omega
set_option maxRecDepth 100000 in
set_option maxHeartbeats 4000000 in
theorem skip_txt (b A cp : Nat) (ys : List Int) (w : World) (hz : BytesAt w b A ys) (hr : Bys ys) (hmax : ys.length ≤ 2147483647) (v : Int) (k : Nat) (hv : rv 0 0 ys = some (v, k)) (hK : v % 8 = 2) (n : Int) (j : Nat) (hv2 : rv 0 0 (ys.drop k) = some (n, j)) (hn0 : 0 ≤ n) (hn1 : (k : Int) + j + n ≤ 9223372036854775807) :
    Calls Tryd.prog 30 #[.slice (some ⟨b, A, none⟩) ys.length cp] w fun e w' => e = .returned (.tuple #[.int .i64 ((k + j + n.toNat : Nat) : Int), .nilIface]) ∧ Below w.heap.size w w' := by
  have mixed : Tryd.prog.follows .mixedOrders = true := by kernel_rfl
  obtain ⟨⟨v0, v1⟩, k0, k1⟩ := rv_range ys 0 0 v k hv
  have HZ := Aside0.mk hz
  have HR := Aside0.mk hr
  have HV0 := Aside0.mk hv
  have hm7 := mask7 v0 v1
  have q0 : ((0 : Int) < (ys.length : Int)) = True := eq_true (by omega)
  clear hz hr hv
  have HV2 := Aside0.mk hv2
  clear hv2
  go_enter Tryd.func30, Tryd.ntmps30
  go_wp2
  refine wp_loop_rounds 1 ?_
  rw [rounds_succ]
  go_wp2
  go_loopw [5, 7, 8] (fun p x sh wr => ∃ (i : Nat) (X : Int), i ≤ ys.length ∧ i ≤ 10 ∧ p = .int .i64 i ∧ x = .int .u64 X ∧ sh = .int .u64 ((7 * i : Nat) : Int) ∧ Aside0 (rv 0 0 ys = rv i X (ys.drop i)) ∧ Aside0 (Below w.heap.size w wr)) (fun p _ _ _ => ys.length - (intOf p).toNat)
  case atStart => exact ⟨0, 0, by omega, by omega, rfl, rfl, rfl, ⟨rfl⟩, ⟨Below.refl _ _⟩⟩
  case round =>
    obtain ⟨i, X, hi, hi10, rfl, rfl, rfl, HV, HB⟩ := hrel
    have h10 : i ≠ 10 := fun e => by subst e; have := HV0.out.symm.trans (HV.out.trans (rv_ten' _ _)); simp at this
    have hlt : i < ys.length := by
      rcases Nat.lt_or_ge i ys.length with h | h
      · exact h
      · have := HV0.out.symm.trans (HV.out.trans (by rw [List.drop_eq_nil_of_le h, rv_nil])); simp at this
    have t1 : ((64 : Int) ≤ ((7 * i : Nat) : Int)) = False := eq_false (by omega)
    have t2 : ((ys.length : Int) ≤ (i : Int)) = False := eq_false (by omega)
    have hx := HZ.out.below HB.out i hlt
    have hr1 := HR.out i
    have hmask := mask64 hr1.1 hr1.2
    by_cases h128 : ys.getD i 0 < 128
    · have he := HV0.out.symm.trans (HV.out.trans (rv_last hlt h10 h128))
      injection he with he; injection he with he1 he2
      have HA1 := Aside0.mk he1
      have HA2 := Aside0.mk he2
      clear he1 he2
      generalize hc : ys.getD i 0 = c at hx hr1 h128 hmask HA1
      have he3 : bits .or .u64 X (IntKind.u64.wrap (c % 128 * 2 ^ (7 * i))) = v := HA1.out.symm
      have bk0 : (v % 8 == 0) = false := beq_eq_false_iff_ne.2 (by omega)
      have bk1 : (v % 8 == 1) = false := beq_eq_false_iff_ne.2 (by omega)
      have bk2 : (v % 8 == 2) = true := beq_iff_eq.2 (by omega)
      have bk3 : (v % 8 == 3) = false := beq_eq_false_iff_ne.2 (by omega)
      have bk4 : (v % 8 == 4) = false := beq_eq_false_iff_ne.2 (by omega)
      have bk5 : (v % 8 == 5) = false := beq_eq_false_iff_ne.2 (by omega)
      obtain rfl := HA2.out
      clear hc HA1 HA2
      go_wp2
      have HBa := HB
      clear HB HV hx hr1 t1 t2 h128 hmask he3
      go_loopw [5, 12, 13] (fun p L sh wr => ∃ (q : Nat) (Y : Int), i + 1 + q ≤ ys.length ∧ q ≤ 10 ∧ p = .int .i64 ((i + 1 + q : Nat) : Int) ∧ L = .int .i64 (wrap64 Y) ∧ sh = .int .u64 ((7 * q : Nat) : Int) ∧ Aside0 (rv 0 0 (ys.drop (i + 1)) = rv q Y (ys.drop (i + 1 + q))) ∧ Aside0 (Below w.heap.size w wr)) (fun p _ _ _ => ys.length - (intOf p).toNat)
      case atStart => exact ⟨0, 0, by omega, by omega, by go_num, congrArg _ (IntWalk.wrap64_in 0 ⟨by decide, by decide⟩).symm, rfl, ⟨rfl⟩, HBa⟩
      case round =>
        clear HBa
        obtain ⟨q, Y, hq, hq10, rfl, rfl, rfl, HV, HB⟩ := hrel
        by_cases h10 : q = 10
        · exfalso; subst h10; have := HV2.out.symm.trans (HV.out.trans (rv_ten' _ _)); simp at this
        have t1 : ((64 : Int) ≤ ((7 * q : Nat) : Int)) = False := eq_false (by omega)
        by_cases hlt2 : i + 1 + q < ys.length
        · have t2 : ((ys.length : Int) ≤ ((i + 1 + q : Nat) : Int)) = False := eq_false (by omega)
          have hx := HZ.out.below HB.out (i + 1 + q) hlt2
          have hr1 := HR.out (i + 1 + q)
          have e7 : wrap64 (((i + 1 + q : Nat) : Int) + 1 - 1) = ((i + 1 + q : Nat) : Int) := IntWalk.wrap64_in _ ⟨by omega, by omega⟩ |>.trans (by omega)
          have hmask := maskI hr1.1 hr1.2
          by_cases h128 : ys.getD (i + 1 + q) 0 < 128
          · have he := HV2.out.symm.trans (HV.out.trans (rv_last hlt2 h10 h128))
            injection he with he; injection he with he1 he2
            have HE1 := Aside0.mk he1.symm
            clear he1
            have hor := or64 Y q _ hr1.1 hr1.2
            rw [HE1.out] at hor
            generalize hc : ys.getD (i + 1 + q) 0 = c at hx hr1 h128 hmask hor
            clear hc HV HE1
            have e8 : wrap64 n = n := IntWalk.wrap64_in _ ⟨by omega, by omega⟩
            rw [e8] at hor
            have t3 : (n < 0) = False := eq_false (by omega)
            have e9 : wrap64 (((i + 1 + q : Nat) : Int) + 1 + n) = ((i + 1 + q : Nat) : Int) + 1 + n := IntWalk.wrap64_in _ ⟨by omega, by omega⟩
            have t4 : (((i + 1 + q : Nat) : Int) + 1 + n < 0) = False := eq_false (by omega)
            have e10 : wrap64 ((i : Int) + 1 + q + 1 + n) = (i : Int) + 1 + q + 1 + n := IntWalk.wrap64_in _ ⟨by omega, by omega⟩
            have t5 : ((i : Int) + 1 + q + 1 + n < 0) = False := eq_false (by omega)
            have HE2 := Aside0.mk he2
            clear he2
            go_wp2
            go_ret2
            exact ⟨by rw [HE2.out]; simp; omega, HB.out⟩
          · have HM := Aside0.mk (HV.out.trans (rv_more hlt2 h10 h128))
            have hor := or64 Y q _ hr1.1 hr1.2
            generalize hc : ys.getD (i + 1 + q) 0 = c at hx hr1 h128 hmask hor HM
            clear hc
            go_wp2
            go_roundw
            case rel => exact ⟨q + 1, _, by omega, by omega, by go_num, rfl, by go_num, ⟨HM.out⟩, HB⟩
            case measure => simp [intOf]; omega
        · exfalso; have := HV2.out.symm.trans (HV.out.trans (by rw [List.drop_eq_nil_of_le (by omega), rv_nil])); simp at this
    · have HM := Aside0.mk (HV.out.trans (rv_more hlt h10 h128))
      generalize hc : ys.getD i 0 = c at hx hr1 h128 hmask HM
      clear hc
      go_wp2
      go_roundw
      case rel => exact ⟨i + 1, _, by omega, by omega, by go_num, rfl, by go_num, ⟨HM.out⟩, HB⟩
      case measure => simp [intOf]; omega
set_option maxRecDepth 100000 in
set_option maxHeartbeats 4000000 in
theorem skip_txt_bad (b A cp : Nat) (ys : List Int) (w : World) (hz : BytesAt w b A ys) (hr : Bys ys) (hmax : ys.length ≤ 2147483647) (v : Int) (k : Nat) (hv : rv 0 0 ys = some (v, k)) (hK : v % 8 = 2) (hv2 : rv 0 0 (ys.drop k) = none) (hg : GErr w) :
    Calls Tryd.prog 30 #[.slice (some ⟨b, A, none⟩) ys.length cp] w fun e w' => (∃ t u, e = .returned (.tuple #[.int .i64 0, .iface t u])) ∧ Below w.heap.size w w' := by
  have mixed : Tryd.prog.follows .mixedOrders = true := by kernel_rfl
  obtain ⟨⟨v0, v1⟩, k0, k1⟩ := rv_range ys 0 0 v k hv
  have HZ := Aside0.mk hz
  have HR := Aside0.mk hr
  have HV0 := Aside0.mk hv
  have HG := Aside0.mk hg
  have hm7 := mask7 v0 v1
  have q0 : ((0 : Int) < (ys.length : Int)) = True := eq_true (by omega)
  clear hz hr hv hg
  have HV2 := Aside0.mk hv2
  clear hv2
  go_enter Tryd.func30, Tryd.ntmps30
  go_wp2
  refine wp_loop_rounds 1 ?_
  rw [rounds_succ]
  go_wp2
  go_loopw [5, 7, 8] (fun p x sh wr => ∃ (i : Nat) (X : Int), i ≤ ys.length ∧ i ≤ 10 ∧ p = .int .i64 i ∧ x = .int .u64 X ∧ sh = .int .u64 ((7 * i : Nat) : Int) ∧ Aside0 (rv 0 0 ys = rv i X (ys.drop i)) ∧ Aside0 (Below w.heap.size w wr)) (fun p _ _ _ => ys.length - (intOf p).toNat)
  case atStart => exact ⟨0, 0, by omega, by omega, rfl, rfl, rfl, ⟨rfl⟩, ⟨Below.refl _ _⟩⟩
  case round =>
    obtain ⟨i, X, hi, hi10, rfl, rfl, rfl, HV, HB⟩ := hrel
    have h10 : i ≠ 10 := fun e => by subst e; have := HV0.out.symm.trans (HV.out.trans (rv_ten' _ _)); simp at this
    have hlt : i < ys.length := by
      rcases Nat.lt_or_ge i ys.length with h | h
      · exact h
      · have := HV0.out.symm.trans (HV.out.trans (by rw [List.drop_eq_nil_of_le h, rv_nil])); simp at this
    have t1 : ((64 : Int) ≤ ((7 * i : Nat) : Int)) = False := eq_false (by omega)
    have t2 : ((ys.length : Int) ≤ (i : Int)) = False := eq_false (by omega)
    have hx := HZ.out.below HB.out i hlt
    have hr1 := HR.out i
    have hmask := mask64 hr1.1 hr1.2
    by_cases h128 : ys.getD i 0 < 128
    · have he := HV0.out.symm.trans (HV.out.trans (rv_last hlt h10 h128))
      injection he with he; injection he with he1 he2
      have HA1 := Aside0.mk he1
      have HA2 := Aside0.mk he2
      clear he1 he2
      generalize hc : ys.getD i 0 = c at hx hr1 h128 hmask HA1
      have he3 : bits .or .u64 X (IntKind.u64.wrap (c % 128 * 2 ^ (7 * i))) = v := HA1.out.symm
      have bk0 : (v % 8 == 0) = false := beq_eq_false_iff_ne.2 (by omega)
      have bk1 : (v % 8 == 1) = false := beq_eq_false_iff_ne.2 (by omega)
      have bk2 : (v % 8 == 2) = true := beq_iff_eq.2 (by omega)
      have bk3 : (v % 8 == 3) = false := beq_eq_false_iff_ne.2 (by omega)
      have bk4 : (v % 8 == 4) = false := beq_eq_false_iff_ne.2 (by omega)
      have bk5 : (v % 8 == 5) = false := beq_eq_false_iff_ne.2 (by omega)
      obtain rfl := HA2.out
      clear hc HA1 HA2
      go_wp2
      have HBa := HB
      clear HB HV hx hr1 t1 t2 h128 hmask he3
      go_loopw [5, 12, 13] (fun p L sh wr => ∃ (q : Nat) (Y : Int), i + 1 + q ≤ ys.length ∧ q ≤ 10 ∧ p = .int .i64 ((i + 1 + q : Nat) : Int) ∧ L = .int .i64 (wrap64 Y) ∧ sh = .int .u64 ((7 * q : Nat) : Int) ∧ Aside0 (rv 0 0 (ys.drop (i + 1)) = rv q Y (ys.drop (i + 1 + q))) ∧ Aside0 (Below w.heap.size w wr)) (fun p _ _ _ => ys.length - (intOf p).toNat)
      case atStart => exact ⟨0, 0, by omega, by omega, by go_num, congrArg _ (IntWalk.wrap64_in 0 ⟨by decide, by decide⟩).symm, rfl, ⟨rfl⟩, HBa⟩
      case round =>
        clear HBa
        obtain ⟨q, Y, hq, hq10, rfl, rfl, rfl, HV, HB⟩ := hrel
        by_cases h10 : q = 10
        · obtain ⟨e0, p0, e1, p1, e2, p2, g0, g1, g2⟩ := HG.out.below HB.out
          have t1 : ((64 : Int) ≤ ((7 * q : Nat) : Int)) = True := eq_true (by omega)
          go_wp2
          repeat (go_quiet (fail); try go_wp2)
          go_ret2
          exact ⟨⟨_, _, rfl⟩, by repeat (first | (with_reducible exact HB.out) | apply pw_below_drewN | apply below_drew1)⟩
        have t1 : ((64 : Int) ≤ ((7 * q : Nat) : Int)) = False := eq_false (by omega)
        by_cases hlt2 : i + 1 + q < ys.length
        · have t2 : ((ys.length : Int) ≤ ((i + 1 + q : Nat) : Int)) = False := eq_false (by omega)
          have hx := HZ.out.below HB.out (i + 1 + q) hlt2
          have hr1 := HR.out (i + 1 + q)
          have e7 : wrap64 (((i + 1 + q : Nat) : Int) + 1 - 1) = ((i + 1 + q : Nat) : Int) := IntWalk.wrap64_in _ ⟨by omega, by omega⟩ |>.trans (by omega)
          have hmask := maskI hr1.1 hr1.2
          by_cases h128 : ys.getD (i + 1 + q) 0 < 128
          · have he := HV2.out.symm.trans (HV.out.trans (rv_last hlt2 h10 h128))
            simp at he
          · have HM := Aside0.mk (HV.out.trans (rv_more hlt2 h10 h128))
            have hor := or64 Y q _ hr1.1 hr1.2
            generalize hc : ys.getD (i + 1 + q) 0 = c at hx hr1 h128 hmask hor HM
            clear hc
            go_wp2
            go_roundw
            case rel => exact ⟨q + 1, _, by omega, by omega, by go_num, rfl, by go_num, ⟨HM.out⟩, HB⟩
            case measure => simp [intOf]; omega
        · obtain ⟨e0, p0, e1, p1, e2, p2, g0, g1, g2⟩ := HG.out.below HB.out
          have t2 : ((ys.length : Int) ≤ ((i + 1 + q : Nat) : Int)) = True := eq_true (by omega)
          go_wp2
          repeat (go_quiet (fail); try go_wp2)
          go_ret2
          exact ⟨⟨_, _, rfl⟩, by repeat (first | (with_reducible exact HB.out) | apply pw_below_drewN | apply below_drew1)⟩
    · have HM := Aside0.mk (HV.out.trans (rv_more hlt h10 h128))
      generalize hc : ys.getD i 0 = c at hx hr1 h128 hmask HM
      clear hc
      go_wp2
      go_roundw
      case rel => exact ⟨i + 1, _, by omega, by omega, by go_num, rfl, by go_num, ⟨HM.out⟩, HB⟩
      case measure => simp [intOf]; omega
set_option maxRecDepth 100000 in
set_option maxHeartbeats 4000000 in
theorem skip_txt_big (b A cp : Nat) (ys : List Int) (w : World) (hz : BytesAt w b A ys) (hr : Bys ys) (hmax : ys.length ≤ 2147483647) (v : Int) (k : Nat) (hv : rv 0 0 ys = some (v, k)) (hK : v % 8 = 2) (n : Int) (j : Nat) (hv2 : rv 0 0 (ys.drop k) = some (n, j)) (hn0 : n < 18446744073709551616) (hn1 : 9223372036854775807 < (k : Int) + j + n) (hg : GErr w) :
    Calls Tryd.prog 30 #[.slice (some ⟨b, A, none⟩) ys.length cp] w fun e w' => (∃ t u, e = .returned (.tuple #[.int .i64 0, .iface t u])) ∧ Below w.heap.size w w' := by
  have mixed : Tryd.prog.follows .mixedOrders = true := by kernel_rfl
  obtain ⟨⟨v0, v1⟩, k0, k1⟩ := rv_range ys 0 0 v k hv
  have HZ := Aside0.mk hz
  have HR := Aside0.mk hr
  have HV0 := Aside0.mk hv
  have HG := Aside0.mk hg
  have hm7 := mask7 v0 v1
  have q0 : ((0 : Int) < (ys.length : Int)) = True := eq_true (by omega)
  clear hz hr hv hg
  have HV2 := Aside0.mk hv2
  clear hv2
  go_enter Tryd.func30, Tryd.ntmps30
  go_wp2
  refine wp_loop_rounds 1 ?_
  rw [rounds_succ]
  go_wp2
  go_loopw [5, 7, 8] (fun p x sh wr => ∃ (i : Nat) (X : Int), i ≤ ys.length ∧ i ≤ 10 ∧ p = .int .i64 i ∧ x = .int .u64 X ∧ sh = .int .u64 ((7 * i : Nat) : Int) ∧ Aside0 (rv 0 0 ys = rv i X (ys.drop i)) ∧ Aside0 (Below w.heap.size w wr)) (fun p _ _ _ => ys.length - (intOf p).toNat)
  case atStart => exact ⟨0, 0, by omega, by omega, rfl, rfl, rfl, ⟨rfl⟩, ⟨Below.refl _ _⟩⟩
  case round =>
    obtain ⟨i, X, hi, hi10, rfl, rfl, rfl, HV, HB⟩ := hrel
    have h10 : i ≠ 10 := fun e => by subst e; have := HV0.out.symm.trans (HV.out.trans (rv_ten' _ _)); simp at this
    have hlt : i < ys.length := by
      rcases Nat.lt_or_ge i ys.length with h | h
      · exact h
      · have := HV0.out.symm.trans (HV.out.trans (by rw [List.drop_eq_nil_of_le h, rv_nil])); simp at this
    have t1 : ((64 : Int) ≤ ((7 * i : Nat) : Int)) = False := eq_false (by omega)
    have t2 : ((ys.length : Int) ≤ (i : Int)) = False := eq_false (by omega)
    have hx := HZ.out.below HB.out i hlt
    have hr1 := HR.out i
    have hmask := mask64 hr1.1 hr1.2
    by_cases h128 : ys.getD i 0 < 128
    · have he := HV0.out.symm.trans (HV.out.trans (rv_last hlt h10 h128))
      injection he with he; injection he with he1 he2
      have HA1 := Aside0.mk he1
      have HA2 := Aside0.mk he2
      clear he1 he2
      generalize hc : ys.getD i 0 = c at hx hr1 h128 hmask HA1
      have he3 : bits .or .u64 X (IntKind.u64.wrap (c % 128 * 2 ^ (7 * i))) = v := HA1.out.symm
      have bk0 : (v % 8 == 0) = false := beq_eq_false_iff_ne.2 (by omega)
      have bk1 : (v % 8 == 1) = false := beq_eq_false_iff_ne.2 (by omega)
      have bk2 : (v % 8 == 2) = true := beq_iff_eq.2 (by omega)
      have bk3 : (v % 8 == 3) = false := beq_eq_false_iff_ne.2 (by omega)
      have bk4 : (v % 8 == 4) = false := beq_eq_false_iff_ne.2 (by omega)
      have bk5 : (v % 8 == 5) = false := beq_eq_false_iff_ne.2 (by omega)
      obtain rfl := HA2.out
      clear hc HA1 HA2
      go_wp2
      have HBa := HB
      clear HB HV hx hr1 t1 t2 h128 hmask he3
      go_loopw [5, 12, 13] (fun p L sh wr => ∃ (q : Nat) (Y : Int), i + 1 + q ≤ ys.length ∧ q ≤ 10 ∧ p = .int .i64 ((i + 1 + q : Nat) : Int) ∧ L = .int .i64 (wrap64 Y) ∧ sh = .int .u64 ((7 * q : Nat) : Int) ∧ Aside0 (rv 0 0 (ys.drop (i + 1)) = rv q Y (ys.drop (i + 1 + q))) ∧ Aside0 (Below w.heap.size w wr)) (fun p _ _ _ => ys.length - (intOf p).toNat)
      case atStart => exact ⟨0, 0, by omega, by omega, by go_num, congrArg _ (IntWalk.wrap64_in 0 ⟨by decide, by decide⟩).symm, rfl, ⟨rfl⟩, HBa⟩
      case round =>
        clear HBa
        obtain ⟨q, Y, hq, hq10, rfl, rfl, rfl, HV, HB⟩ := hrel
        by_cases h10 : q = 10
        · obtain ⟨e0, p0, e1, p1, e2, p2, g0, g1, g2⟩ := HG.out.below HB.out
          have t1 : ((64 : Int) ≤ ((7 * q : Nat) : Int)) = True := eq_true (by omega)
          go_wp2
          repeat (go_quiet (fail); try go_wp2)
          go_ret2
          exact ⟨⟨_, _, rfl⟩, by repeat (first | (with_reducible exact HB.out) | apply pw_below_drewN | apply below_drew1)⟩
        have t1 : ((64 : Int) ≤ ((7 * q : Nat) : Int)) = False := eq_false (by omega)
        by_cases hlt2 : i + 1 + q < ys.length
        · have t2 : ((ys.length : Int) ≤ ((i + 1 + q : Nat) : Int)) = False := eq_false (by omega)
          have hx := HZ.out.below HB.out (i + 1 + q) hlt2
          have hr1 := HR.out (i + 1 + q)
          have e7 : wrap64 (((i + 1 + q : Nat) : Int) + 1 - 1) = ((i + 1 + q : Nat) : Int) := IntWalk.wrap64_in _ ⟨by omega, by omega⟩ |>.trans (by omega)
          have hmask := maskI hr1.1 hr1.2
          by_cases h128 : ys.getD (i + 1 + q) 0 < 128
          · have he := HV2.out.symm.trans (HV.out.trans (rv_last hlt2 h10 h128))
            injection he with he; injection he with he1 he2
            have HE1 := Aside0.mk he1.symm
            clear he1
            have hor := or64 Y q _ hr1.1 hr1.2
            rw [HE1.out] at hor
            obtain ⟨e0, p0, e1, p1, e2, p2, g0, g1, g2⟩ := HG.out.below HB.out
            generalize hc : ys.getD (i + 1 + q) 0 = c at hx hr1 h128 hmask hor
            clear hc HV HE1
            by_cases hn : n < 9223372036854775808
            · have e8 : wrap64 n = n := IntWalk.wrap64_in _ ⟨by omega, by omega⟩
              rw [e8] at hor
              have t3 : (n < 0) = False := eq_false (by omega)
              have e9 : wrap64 (((i + 1 + q : Nat) : Int) + 1 + n) = ((i + 1 + q : Nat) : Int) + 1 + n - 18446744073709551616 := by rw [wrap64_big _ (by omega) (by omega)]
              have t4 : (((i + 1 + q : Nat) : Int) + 1 + n - 18446744073709551616 < 0) = True := eq_true (by omega)
              have e10 : wrap64 ((i : Int) + 1 + q + 1 + n) = (i : Int) + 1 + q + 1 + n - 18446744073709551616 := by rw [wrap64_big _ (by omega) (by omega)]
              have t5 : ((i : Int) + 1 + q + 1 + n - 18446744073709551616 < 0) = True := eq_true (by omega)
              clear he2
              go_wp2
              repeat (go_quiet (fail); try go_wp2)
              go_ret2
              exact ⟨⟨_, _, rfl⟩, by repeat (first | (with_reducible exact HB.out) | apply pw_below_drewN | apply below_drew1)⟩
            · have e8 : wrap64 n = n - 18446744073709551616 := wrap64_big _ (by omega) (by omega)
              rw [e8] at hor
              have t3 : (n - 18446744073709551616 < 0) = True := eq_true (by omega)
              clear he2
              go_wp2
              repeat (go_quiet (fail); try go_wp2)
              go_ret2
              exact ⟨⟨_, _, rfl⟩, by repeat (first | (with_reducible exact HB.out) | apply pw_below_drewN | apply below_drew1)⟩
          · have HM := Aside0.mk (HV.out.trans (rv_more hlt2 h10 h128))
            have hor := or64 Y q _ hr1.1 hr1.2
            generalize hc : ys.getD (i + 1 + q) 0 = c at hx hr1 h128 hmask hor HM
            clear hc
            go_wp2
            go_roundw
            case rel => exact ⟨q + 1, _, by omega, by omega, by go_num, rfl, by go_num, ⟨HM.out⟩, HB⟩
            case measure => simp [intOf]; omega
        · obtain ⟨e0, p0, e1, p1, e2, p2, g0, g1, g2⟩ := HG.out.below HB.out
          have t2 : ((ys.length : Int) ≤ ((i + 1 + q : Nat) : Int)) = True := eq_true (by omega)
          go_wp2
          repeat (go_quiet (fail); try go_wp2)
          go_ret2
          exact ⟨⟨_, _, rfl⟩, by repeat (first | (with_reducible exact HB.out) | apply pw_below_drewN | apply below_drew1)⟩
    · have HM := Aside0.mk (HV.out.trans (rv_more hlt h10 h128))
      generalize hc : ys.getD i 0 = c at hx hr1 h128 hmask HM
      clear hc
      go_wp2
      go_roundw
      case rel => exact ⟨i + 1, _, by omega, by omega, by go_num, rfl, by go_num, ⟨HM.out⟩, HB⟩
      case measure => simp [intOf]; omega
end Go.Proofs.YtihlmkgffifknaaDoor.Read
