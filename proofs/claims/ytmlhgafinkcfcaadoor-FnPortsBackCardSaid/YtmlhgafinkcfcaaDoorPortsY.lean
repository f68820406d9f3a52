/- Ranges of ports: written, and read. -/
import Derived.Test.YtmlhgafinkcfcaaDoorPortsX
import Derived.Shelf.SlSortCmp.QuietGrown
set_option linter.unusedVariables false
set_option linter.unusedSimpArgs false
namespace Go.Proofs.YtmlhgafinkcfcaaDoor.Ports
open Go Go.Sort Go.RowKit Go.Proofs.YtmlhgafinkcfcaaDoorW.PrintWords Go.Proofs.YtmlhgafinkcfcaaDoor.PFnPortsBack Go.Proofs.YtmlhgafinkcfcaaDoor.Txt

def range (a b : Nat) : ByteArray := txt a ++ ⟨#[45]⟩ ++ txt b

theorem itoaG (a : Nat) (h : a < 100000) (w : World) (htab : Lib.TabIs Tryd.prog w "internal/strconv.uint64pow10" .u64 Lib.pow10Tab) :
    Calls Tryd.prog 24 #[.int .i64 (a : Int)] w fun e w' => e = .returned (.string (txt a)) ∧ ∃ q os', w' = grow (w.drewN q) os' :=
  (Tryd.strconv_Itoa (a : Int) (by omega) (by omega) w htab).mono fun e w' hq => by
    obtain ⟨rfl, k, os, rfl⟩ := hq
    rw [Lib.itoa_nonneg]
    exact ⟨rfl, k, os, rfl⟩
set_option maxRecDepth 100000 in
theorem text_calls (a n b : Nat) (h1 : 1 ≤ a) (h2 : 1 ≤ n) (h3 : a + n = b + 1) (h4 : b < 100000) (w : World) (htab : Lib.TabIs Tryd.prog w "internal/strconv.uint64pow10" .u64 Lib.pow10Tab) :
    Calls Tryd.prog 10 #[.int .i64 (a : Int), .int .i64 (n : Int)] w fun e w' => e = .returned (.string (range a b)) ∧ Below w.heap.size w w' := by
  have mixed : Tryd.prog.follows .mixedOrders = true := by kernel_rfl
  have HT := Aside0.mk (Lib.tabBelow_of_tabIs htab)
  have q1 : ((n : Int) == 0) = false := beq_eq_false_iff_ne.2 (by omega)
  have e1 : wrap64 ((a : Int) + (n : Int)) = (b : Int) + 1 := by rw [IntWalk.wrap64_in _ ⟨by omega, by omega⟩]; omega
  have e2 : wrap64 ((b : Int) + 1 - 1) = (b : Int) := by rw [show ((b : Int) + 1 - 1) = b by omega]; exact IntWalk.wrap64_in _ ⟨by omega, by omega⟩
  have e3 : wrap64 (b : Int) = (b : Int) := IntWalk.wrap64_in _ ⟨by omega, by omega⟩
  have e4 : IntKind.i64.wrap ((a : Int) + (n : Int)) = (b : Int) + 1 := (IntWalk.i64_left _).trans e1
  have e5 : IntKind.i64.wrap ((b : Int) + 1 - 1) = (b : Int) := (IntWalk.i64_left _).trans e2
  have e6 : IntKind.i64.wrap (b : Int) = (b : Int) := (IntWalk.i64_left _).trans e3
  have HA := Aside0.mk (fun w h => itoaG a (by omega) w h)
  have HB := Aside0.mk (fun w h => itoaG b (by omega) w h)
  have s1 := txt_size a (by omega)
  have s2 := txt_size b (by omega)
  have r1 : (9223372036854775807 < (txt a).size + 1) = False := eq_false (by omega)
  have r2 : (9223372036854775807 < (txt a).size + 1 + (txt b).size) = False := eq_false (by omega)
  have hu2 := Tryd.underlying52
  clear htab h1 h2 h3 h4 s1 s2
  go_enter Tryd.func10, Tryd.ntmps10
  go_wp2_with go_in
  obtain ⟨W, hW⟩ : ∃ W, W = w.alloc (.cells #[.int .i64 (a : Int), .int .i64 (n : Int)] 52) := ⟨_, rfl⟩
  have HWb : Aside0 (Below w.heap.size w W) := ⟨by rw [hW]; exact below_alloc (Below.refl _ _) _⟩
  have c0 : ∀ nn os, (grow (W.drewN nn) os).cell? ⟨w.heap.size, 0, none⟩ = some (.int .i64 (a : Int)) := fun nn os => cell_grown (by rw [hW]; simp) (by rw [hW]; exact blk_cell (blk_new w _) 0) nn os
  have c1 : ∀ nn os, (grow (W.drewN nn) os).cell? ⟨w.heap.size, 1, none⟩ = some (.int .i64 (n : Int)) := fun nn os => cell_grown (by rw [hW]; simp) (by rw [hW]; exact blk_cell (blk_new w _) 1) nn os
  rw [← hW]
  clear hW
  go_quiet_grown (first | (go_at_call 24; exact Calls.grown_of (HA.out _ (HT.out _ (below_step HWb.out (Lib.below_grow _ _ (Nat.le_refl _) _ _))))) | (go_at_call 24; exact Calls.grown_of (HB.out _ (HT.out _ (below_step HWb.out (Lib.below_grow _ _ (Nat.le_refl _) _ _))))))
  go_wp2
  go_ret
  exact ⟨rfl, below_step HWb.out (Lib.below_grow _ _ (Nat.le_refl _) _ _)⟩

/-! ### a range as it is written: its parts -/
theorem range_list (a b : Nat) : (range a b).data.toList = Lib.decDigits a ++ 45 :: Lib.decDigits b := by
  unfold range
  rw [data_append, data_append, txt_list, txt_list]
  simp
theorem range_size (a b : Nat) : (range a b).size = (txt a).size + 1 + (txt b).size := by
  unfold range
  rw [ByteArray.size_append, ByteArray.size_append]; rfl
theorem plc_dig (c : UInt8) (A B : List UInt8) (h : ∀ x ∈ A, x ≠ c) : plcN c (A ++ c :: B) = A.length := by
  induction A with
  | nil => exact plcN_cons_eq c B
  | cons x A ih =>
    rw [List.cons_append, plcN_cons_ne _ (h x List.mem_cons_self), ih (fun y hy => h y (List.mem_cons_of_mem _ hy)), List.length_cons]
theorem plc_no (c : UInt8) (A : List UInt8) (h : ∀ x ∈ A, x ≠ c) : plc c A = -1 := by
  have : plcN c A = A.length := by
    induction A with
    | nil => rfl
    | cons x A ih => rw [plcN_cons_ne _ (h x List.mem_cons_self), ih (fun y hy => h y (List.mem_cons_of_mem _ hy)), List.length_cons]
  unfold plc
  rw [if_neg (by omega)]
theorem range_hyphen (a b : Nat) : plc 45 (range a b).data.toList = ((txt a).size : Int) := by
  have e : (txt a).size = (Lib.decDigits a).length := by rw [size_len]; rfl
  rw [range_list]
  unfold plc
  rw [plc_dig 45 _ _ (fun x hx e => by have := (dig_all a x hx).1; rw [e] at this; exact absurd this (by decide)), if_pos (by simp), e]
theorem range_plus (a b : Nat) : plc 43 (range a b).data.toList = -1 := by
  rw [range_list]
  refine plc_no _ _ fun x hx e => ?_
  subst e
  rw [List.mem_append, List.mem_cons] at hx
  rcases hx with hx | hx | hx
  · exact absurd (dig_all a _ hx).1 (by decide)
  · exact absurd hx (by decide)
  · exact absurd (dig_all b _ hx).1 (by decide)
theorem range_low (a b : Nat) : (range a b).extract 0 (txt a).size = txt a := by
  have e : (txt a).size = (Lib.decDigits a).length := by rw [size_len]; rfl
  apply ext
  rw [data_extract, range_list, txt_list, e]
  simp
theorem range_high (a b : Nat) : (range a b).extract ((txt a).size + 1) (range a b).size = txt b := by
  have e : (txt a).size = (Lib.decDigits a).length := by rw [size_len]; rfl
  have e2 : (txt b).size = (Lib.decDigits b).length := by rw [size_len]; rfl
  apply ext
  rw [data_extract, range_list, txt_list, range_size, e, e2]
  rw [show (Lib.decDigits a ++ 45 :: Lib.decDigits b).drop ((Lib.decDigits a).length + 1) = Lib.decDigits b by rw [List.drop_append]; simp]
  exact List.take_of_length_le (by omega)
theorem range_first (a b : Nat) : ∃ x, (range a b).data.toList[0]? = some x ∧ 33 ≤ x.toNat ∧ x.toNat < 128 := by
  rw [range_list]
  cases h : Lib.decDigits a with
  | nil => exact absurd h (dig_ne a)
  | cons x r =>
    have := dig_all a x (by rw [h]; exact List.mem_cons_self)
    exact ⟨x, rfl, by omega, by omega⟩
theorem range_last (a b n : Nat) (hn : (range a b).size = n + 1) : ∃ x, (range a b).data.toList[n]? = some x ∧ 33 ≤ x.toNat ∧ x.toNat < 128 := by
  have e : (txt a).size = (Lib.decDigits a).length := by rw [size_len]; rfl
  have e2 : (txt b).size = (Lib.decDigits b).length := by rw [size_len]; rfl
  have hp : 1 ≤ (Lib.decDigits b).length := by rw [Lib.decDigits_length]; exact Lib.nDigits_pos b
  rw [range_size] at hn
  have hlt : (Lib.decDigits b).length - 1 < (Lib.decDigits b).length := by omega
  refine ⟨(Lib.decDigits b)[(Lib.decDigits b).length - 1], ?_, ?_⟩
  · rw [range_list, List.getElem?_append_right (by omega), show n - (Lib.decDigits a).length = ((Lib.decDigits b).length - 1) + 1 by omega, List.getElem?_cons_succ, List.getElem?_eq_getElem hlt]
  · have := dig_all b _ (List.getElem_mem hlt)
    omega
end Go.Proofs.YtmlhgafinkcfcaaDoor.Ports
