/- Ranges of ports: numbers as texts. -/
import Derived.Test.YtmlhgafinkcfcaaDoorPortsW
import Derived.Test.YtmlhgafinkcfcaaDoorPFnPortsBackx1
import Derived.Test.YtmlhgafinkcfcaaDoorTxt
import Derived.Test.YtmlhgafinkcfcaaDoorEvs
import Derived.Lib.AppendIntMem
import Derived.Lib.ItoaMem
import Derived.Lib.AtoiErrMem
set_option linter.unusedVariables false
set_option linter.unusedSimpArgs false
namespace Go.Proofs.YtmlhgafinkcfcaaDoor.Ports
open Go.RowKit Go.Proofs.YtmlhgafinkcfcaaDoorW.PrintWords Go.Proofs.YtmlhgafinkcfcaaDoor.PFnPortsBack Go.Proofs.YtmlhgafinkcfcaaDoor.Txt

theorem index_l0 (s : ByteArray) (c : UInt8) (hs : s.size ≤ 9223372036854775806) (n : Nat) : ∀ i : Nat, i + n = s.data.toList.length →
    Ev (fun k => net_zzIndex.l0 k s (⟨#[c]⟩ : ByteArray) i) (if plcN c (s.data.toList.drop i) < n then ((i + plcN c (s.data.toList.drop i) : Nat) : Int) else -1) := by
  have hsz := size_len s
  have h1 : ((⟨#[c]⟩ : ByteArray).size : Int) = 1 := rfl
  have hcl : (⟨#[c]⟩ : ByteArray).toList = [c] := toL _
  induction n with
  | zero =>
    intro i hi
    rw [if_neg (by omega)]
    refine ⟨1, fun k hk => ?_⟩
    obtain ⟨k, rfl⟩ : ∃ m, k = m + 1 := ⟨k - 1, by omega⟩
    simp only [net_zzIndex.l0]
    rw [h1, Small.w64s i (by omega), if_neg (by omega)]
  | succ n ih =>
    intro i hi
    have h : i < s.data.toList.length := by omega
    have ih := ih (i + 1) (by omega)
    rw [List.drop_eq_getElem_cons h]
    by_cases e : s.data.toList[i] = c
    · rw [e, plcN_cons_eq, if_pos (by omega)]
      refine ⟨1, fun k hk => ?_⟩
      obtain ⟨k, rfl⟩ : ∃ m, k = m + 1 := ⟨k - 1, by omega⟩
      simp only [net_zzIndex.l0]
      rw [h1, Small.w64s i (by omega), if_pos (by omega), if_pos (by omega), if_pos (by omega), Int.toNat_natCast, Int.toNat_natCast, one_extract s i h, hcl, e, if_pos rfl]; rfl
    · rw [plcN_cons_ne _ e]
      have e2 : (if plcN c (s.data.toList.drop (i + 1)) + 1 < n + 1 then ((i + (plcN c (s.data.toList.drop (i + 1)) + 1) : Nat) : Int) else -1) = (if plcN c (s.data.toList.drop (i + 1)) < n then ((i + 1 + plcN c (s.data.toList.drop (i + 1)) : Nat) : Int) else -1) := by
        split <;> split <;> omega
      rw [e2]
      refine Ev.step (fun k => ?_) ih
      simp only [net_zzIndex.l0]
      rw [h1, Small.w64s i (by omega), if_pos (by omega), if_pos (by omega), if_pos (by omega), Int.toNat_natCast, Int.toNat_natCast, one_extract s i h, hcl, if_neg (fun z => e (by simpa using z))]

theorem index_f (s : ByteArray) (c : UInt8) (hs : s.size ≤ 9223372036854775806) : Ev (fun k => net_zzIndex.f k s (⟨#[c]⟩ : ByteArray)) (plc c s.data.toList) := by
  have := index_l0 s c hs s.data.toList.length 0 (by omega)
  simp only [List.drop_zero, Nat.zero_add] at this
  exact this

theorem dig_all (u : Nat) : ∀ x ∈ Lib.decDigits u, 48 ≤ x.toNat ∧ x.toNat ≤ 57 := by
  induction u using Nat.strongRecOn with
  | ind u ih =>
    intro x hx
    rw [Lib.decDigits] at hx
    split at hx
    · rw [List.mem_singleton] at hx
      subst hx
      rw [UInt8.toNat_ofNat']
      omega
    · rw [List.mem_append, List.mem_singleton] at hx
      rcases hx with hx | hx
      · exact ih (u / 10) (by omega) x hx
      · subst hx
        rw [UInt8.toNat_ofNat']
        omega
theorem dig_val (d : Nat) (h : d < 10) : Lib.digitVal (UInt8.ofNat (48 + d)) = some d := by
  unfold Lib.digitVal
  have e : (UInt8.ofNat (48 + d)).toNat = 48 + d := by rw [UInt8.toNat_ofNat']; omega
  rw [e, if_pos (by omega)]
  congr 1; omega
theorem dec_snoc : ∀ (l : List UInt8) (acc n d : Nat) (b : UInt8), Lib.decFrom acc l = some n → Lib.digitVal b = some d → Lib.decFrom acc (l ++ [b]) = some (n * 10 + d)
  | [], acc, n, d, b, h, hb => by
    simp only [Lib.decFrom, Option.some.injEq] at h
    subst h
    simp [Lib.decFrom, hb]
  | a :: l, acc, n, d, b, h, hb => by
    simp only [List.cons_append, Lib.decFrom] at h ⊢
    cases ha : Lib.digitVal a with
    | none => simp [ha] at h
    | some v =>
      simp only [ha] at h ⊢
      exact dec_snoc l _ n d b h hb
theorem dec_dig (u : Nat) : Lib.decFrom 0 (Lib.decDigits u) = some u := by
  induction u using Nat.strongRecOn with
  | ind u ih =>
    rw [Lib.decDigits]
    split
    · rename_i h
      simp only [Lib.decFrom, dig_val u h, Nat.zero_mul, Nat.zero_add]
    · have := dec_snoc _ 0 (u / 10) (u % 10) _ (ih (u / 10) (by omega)) (dig_val (u % 10) (by omega))
      rw [this]
      congr 1; omega
theorem dig_ne (u : Nat) : Lib.decDigits u ≠ [] := by
  intro h
  have := Lib.decDigits_length u
  have := Lib.nDigits_pos u
  rw [h] at *
  simp at *
  omega
theorem atoi_dig (u : Nat) : Lib.atoi (Lib.decDigits u) = some (u : Int) := by
  have hd := dec_dig u
  have ha := dig_all u
  cases h : Lib.decDigits u with
  | nil => exact absurd h (dig_ne u)
  | cons b r =>
    have hb := ha b (by rw [h]; exact List.mem_cons_self)
    rw [h] at hd
    have e1 : (b == 45) = false := beq_eq_false_iff_ne.2 (fun e => by rw [e] at hb; exact absurd hb.1 (by decide))
    have e2 : (b == 43) = false := beq_eq_false_iff_ne.2 (fun e => by rw [e] at hb; exact absurd hb.1 (by decide))
    simp only [Lib.atoi, e1, e2, Bool.false_eq_true, if_false, Lib.decNat, List.isEmpty_cons, hd, Option.map_some]
theorem dig_len : ∀ (k u : Nat), u < 10 ^ (k + 1) → (Lib.decDigits u).length ≤ k + 1 := by
  intro k u h
  rw [Lib.decDigits_length]
  induction k generalizing u with
  | zero => rw [Lib.nDigits_small (by omega)]; omega
  | succ k ih =>
    by_cases hu : u < 10
    · rw [Lib.nDigits_small hu]; omega
    · rw [Lib.nDigits_big hu]
      have := ih (u / 10) (by rw [Nat.pow_succ] at h; omega)
      omega
def txt (a : Nat) : ByteArray := ⟨(Lib.decDigits a).toArray⟩
theorem txt_list (a : Nat) : (txt a).data.toList = Lib.decDigits a := rfl
theorem txt_size (a : Nat) (h : a < 100000) : (txt a).size ≤ 5 ∧ 1 ≤ (txt a).size := by
  have e : (txt a).size = (Lib.decDigits a).length := by rw [size_len]; rfl
  have h1 := dig_len 4 a (by omega)
  have h2 := Lib.nDigits_pos a
  rw [← Lib.decDigits_length] at h2
  omega

/-- strconv.Itoa of a number that is not negative. -/
theorem itoaB (a : Nat) (h : a < 100000) (w : World) (htab : Lib.TabIs Tryd.prog w "internal/strconv.uint64pow10" .u64 Lib.pow10Tab) :
    Calls Tryd.prog 24 #[.int .i64 (a : Int)] w fun e w' => e = .returned (.string (txt a)) ∧ Below w.heap.size w w' :=
  (Tryd.strconv_Itoa (a : Int) (by omega) (by omega) w htab).mono fun e w' hq => by
    obtain ⟨rfl, k, os, rfl⟩ := hq
    rw [Lib.itoa_nonneg]
    exact ⟨rfl, Lib.below_grow _ _ (Nat.le_refl _) k os⟩
theorem atoiB (s : ByteArray) (n : Int) (hl : s.size ≤ 18) (h : Lib.atoi s.data.toList = some n) (w : World) :
    Calls Tryd.prog 35 #[.string s] w fun e w' => e = .returned (.tuple #[.int .i64 n, .nilIface]) ∧ Below w.heap.size w w' :=
  (Tryd.strconv_Atoi s n hl h w).mono fun e w' hq => by
    obtain ⟨rfl, t, rfl⟩ := hq
    exact ⟨rfl, Lib.bytesWorld_below w 5 t⟩
theorem indexB (s : ByteArray) (c : UInt8) (hs : s.size ≤ 9223372036854775806) (w : World) :
    Calls Tryd.prog 34 #[.string s, .string (⟨#[c]⟩ : ByteArray)] w fun e w' => e = .returned (.int .i64 (plc c s.data.toList)) ∧ Below w.heap.size w w' := by
  obtain ⟨K, hK⟩ := index_f s c hs
  refine (net_zzIndex.calls K s _ _ w (hK K (Nat.le_refl _))).mono fun e w' hq => ?_
  obtain ⟨rfl, nd, rfl⟩ := hq
  exact ⟨rfl, pw_below_drewN (Below.refl _ _) nd⟩
end Go.Proofs.YtmlhgafinkcfcaaDoor.Ports
