/- Sets of whole numbers: the other functions. -/
import Derived.Test.YtmlhgafinkcfcaaSetW
import Derived.Sort.OwnSortedInts
import Derived.Sort.OwnSorted
import Derived.Shelf.Sort.Plain
import Derived.BigQuiet
import Derived.Deep.QuietTactic
set_option linter.unusedVariables false
set_option linter.unusedSimpArgs false
namespace Go.Proofs.Ytmlhgafinkcfcaa.SetW
open Go.RowKit Go.Maps Go.Proofs.YtmlhgafinkcfcaaW.PrintWords

set_option maxRecDepth 100000 in
set_option maxHeartbeats 2000000 in
theorem sym_any (b n c m : Nat) (L M0 : List Int) (w : World) (hs : IsSet w b n L) (hq : IsSet w c m M0) (hn : n + m + 1 < maxLen) :
    Calls Try.prog 36 #[.map (some b), .map (some c)] w fun e w' => ∃ g, e = .returned (.map (some g)) ∧ w.heap.size ≤ g ∧ IsSet w' g (n + m) ((L.filter fun x => !decide (x ∈ M0)) ++ (M0.filter fun x => !decide (x ∈ L))) ∧ Below w.heap.size w w' := by
  have HS := Aside0.mk hs
  have HQ := Aside0.mk hq
  have HC := Aside0.mk (difference_any b n c m L M0 w hs hq (by omega))
  clear hs hq
  go_enter Try.func36, Try.ntmps36
  go_wp2_with (first
    | (go_at_call 35; (with_reducible refine (HC.out).mono ?_); rintro e w1 ⟨rfl, hs1, hb1⟩; have HS1 := Aside0.mk hs1; have HB1 := Aside0.mk hb1; have hz1 := Aside0.mk hs1.lt; clear hs1 hb1; have HC2 := Aside0.mk (difference_any c m b n M0 L w1 (HQ.out.kept (grown_of_below HB1.out none) (by simp)) (HS.out.kept (grown_of_below HB1.out none) (by simp)) (by omega)); clear HC)
    | (go_at_call 35; (with_reducible refine (HC2.out).mono ?_); rintro e w2 ⟨rfl, hs2, hb2⟩; have HS2 := Aside0.mk hs2; have HB2 := Aside0.mk hb2; clear hs2 hb2; have HC3 := Aside0.mk (union_any w.heap.size n w1.heap.size m _ _ w2 (HS1.out.kept (grown_of_below HB2.out none) (by simp)) HS2.out hn); clear HC2)
    | (go_at_call 33; refine (HC3.out).mono ?_; rintro e w3 ⟨rfl, hs3, hb3⟩))
  go_ret
  have h1 := HB1.out.size
  have h2 := HB2.out.size
  exact ⟨_, rfl, by omega, hs3, (HB1.out.trans (HB2.out.mono h1)).trans (hb3.mono (by omega))⟩

set_option maxHeartbeats 2000000 in
theorem hasAll_any (b n : Nat) (L : List Int) (A : Option Addr) (c : Nat) (xs : List Int) (w : World) (hs : IsSet w b n L) (hr : Kd.C (Kd.int .i64) w A xs.length xs) (hn : xs.length < maxLen) (hw : ∀ x ∈ xs, (Lit.int .i64 x).wf = true) :
    Calls Try.prog 39 #[.map (some b), .slice A xs.length c] w fun e w' => e = .returned (.bool (xs.all fun x => decide (x ∈ L))) ∧ w.grownBy w' none := by
  have HS := Aside0.mk hs
  have HR := Aside0.mk hr
  have HW := Aside0.mk hw
  have hm : xs.length ≤ 9223372036854775807 := by unfold maxLen at hn; omega
  clear hs hr hn hw
  go_enter Try.func39, Try.ntmps39
  go_wp2
  go_loopw [6, 9] (fun _ v wr => ∃ k : Nat, k ≤ xs.length ∧ v = .int .i64 k ∧ Aside0 ((xs.take k).all (fun x => decide (x ∈ L)) = true) ∧ Aside0 (w.grownBy wr none)) (fun _ i _ => xs.length - (intOf i).toNat)
  case atStart => exact ⟨0, Nat.zero_le _, rfl, ⟨by simp⟩, ⟨World.grownBy.refl _ _⟩⟩
  case round =>
    obtain ⟨k, hk, rfl, HA, HG⟩ := hrel
    by_cases hlt : k < xs.length
    · have p : (0 ≤ (k : Int)) = True := eq_true (by omega)
      have q : ((k : Int) < (xs.length : Int)) = True := eq_true (by omega)
      obtain ⟨ad, rfl, hx⟩ := Kd.at_int HR.out (k : Int) (by omega) (by omega)
      have hx' := (HG.out).cell hx (by simp)
      clear hx
      simp only [Int.toNat_natCast] at hx'
      have hwk : (Lit.int .i64 (rd xs (k : Int))).wf = true := HW.out _ (by rw [rd_at hlt]; exact List.getElem_mem hlt)
      have HH := Aside0.mk (has_any b n L (rd xs (k : Int)) wr (HS.out.kept HG.out (by simp)) hwk)
      by_cases hx : rd xs (k : Int) ∈ L
      · have hd : decide (rd xs (k : Int) ∈ L) = true := decide_eq_true hx
        rw [hd] at HH
        go_wp2_with (go_at_call 43; refine (HH.out).mono ?_; rintro e w4 ⟨rfl, hg4⟩)
        go_roundw
        case rel => exact ⟨k + 1, by omega, by go_num, ⟨by rw [take_more hlt, List.all_append, HA.out]; simp [hx]⟩, ⟨HG.out.trans hg4⟩⟩
        case measure => simp [intOf]; omega
      · have hd : decide (rd xs (k : Int) ∈ L) = false := decide_eq_false hx
        rw [hd] at HH
        go_wp2_with (go_at_call 43; refine (HH.out).mono ?_; rintro e w4 ⟨rfl, hg4⟩)
        go_ret
        have : (xs.all fun x => decide (x ∈ L)) = false := List.all_eq_false.2 ⟨rd xs (k : Int), by rw [rd_at hlt]; exact List.getElem_mem hlt, by simpa using hx⟩
        exact ⟨by rw [this]; rfl, HG.out.trans hg4⟩
    · go_wp2
      go_ret
      have : k = xs.length := by omega
      subst this
      exact ⟨by have := HA.out; rw [List.take_length] at this; rw [this]; rfl, HG.out⟩

set_option maxHeartbeats 2000000 in
theorem hasAnyOf_any (b n : Nat) (L : List Int) (A : Option Addr) (c : Nat) (xs : List Int) (w : World) (hs : IsSet w b n L) (hr : Kd.C (Kd.int .i64) w A xs.length xs) (hn : xs.length < maxLen) (hw : ∀ x ∈ xs, (Lit.int .i64 x).wf = true) :
    Calls Try.prog 40 #[.map (some b), .slice A xs.length c] w fun e w' => e = .returned (.bool (xs.any fun x => decide (x ∈ L))) ∧ w.grownBy w' none := by
  have HS := Aside0.mk hs
  have HR := Aside0.mk hr
  have HW := Aside0.mk hw
  have hm : xs.length ≤ 9223372036854775807 := by unfold maxLen at hn; omega
  clear hs hr hn hw
  go_enter Try.func40, Try.ntmps40
  go_wp2
  go_loopw [6, 9] (fun _ v wr => ∃ k : Nat, k ≤ xs.length ∧ v = .int .i64 k ∧ Aside0 ((xs.take k).any (fun x => decide (x ∈ L)) = false) ∧ Aside0 (w.grownBy wr none)) (fun _ i _ => xs.length - (intOf i).toNat)
  case atStart => exact ⟨0, Nat.zero_le _, rfl, ⟨by simp⟩, ⟨World.grownBy.refl _ _⟩⟩
  case round =>
    obtain ⟨k, hk, rfl, HA, HG⟩ := hrel
    by_cases hlt : k < xs.length
    · have p : (0 ≤ (k : Int)) = True := eq_true (by omega)
      have q : ((k : Int) < (xs.length : Int)) = True := eq_true (by omega)
      obtain ⟨ad, rfl, hx⟩ := Kd.at_int HR.out (k : Int) (by omega) (by omega)
      have hx' := (HG.out).cell hx (by simp)
      clear hx
      simp only [Int.toNat_natCast] at hx'
      have hwk : (Lit.int .i64 (rd xs (k : Int))).wf = true := HW.out _ (by rw [rd_at hlt]; exact List.getElem_mem hlt)
      have HH := Aside0.mk (has_any b n L (rd xs (k : Int)) wr (HS.out.kept HG.out (by simp)) hwk)
      by_cases hx : rd xs (k : Int) ∈ L
      · have hd : decide (rd xs (k : Int) ∈ L) = true := decide_eq_true hx
        rw [hd] at HH
        go_wp2_with (go_at_call 43; refine (HH.out).mono ?_; rintro e w4 ⟨rfl, hg4⟩)
        go_ret
        have : (xs.any fun x => decide (x ∈ L)) = true := List.any_eq_true.2 ⟨rd xs (k : Int), by rw [rd_at hlt]; exact List.getElem_mem hlt, by simpa using hx⟩
        exact ⟨by rw [this]; rfl, HG.out.trans hg4⟩
      · have hd : decide (rd xs (k : Int) ∈ L) = false := decide_eq_false hx
        rw [hd] at HH
        go_wp2_with (go_at_call 43; refine (HH.out).mono ?_; rintro e w4 ⟨rfl, hg4⟩)
        go_roundw
        case rel => exact ⟨k + 1, by omega, by go_num, ⟨by rw [take_more hlt, List.any_append, HA.out]; simp [hx]⟩, ⟨HG.out.trans hg4⟩⟩
        case measure => simp [intOf]; omega
    · go_wp2
      go_ret
      have : k = xs.length := by omega
      subst this
      exact ⟨by have := HA.out; rw [List.take_length] at this; rw [this]; rfl, HG.out⟩

set_option maxRecDepth 100000 in
set_option maxHeartbeats 2000000 in
theorem superset_any (b n c m : Nat) (L M0 : List Int) (w : World) (hs : IsSet w b n L) (hq : IsSet w c m M0) :
    Calls Try.prog 41 #[.map (some b), .map (some c)] w fun e w' => e = .returned (.bool (M0.all fun x => decide (x ∈ L))) ∧ w.grownBy w' none := by
  have hbl := hs.lt
  have HS := Aside0.mk hs
  obtain ⟨D, hown, hD⟩ := hq
  have hcl := hown.lt
  have HD := Aside0.mk hD
  clear hD hs
  go_enter Try.func41, Try.ntmps41
  go_wp2_with (first | (at_range; refine wpList_range_own _ rfl _ 50 rfl 3 78 law3 Try.underlying50 _ c m D rfl hown ?_; intro w0 hrg0 hg0 hs0))
  go_frame
  go_loopw [5] (fun _ wr => ∃ (left : Lit → Bool) (cnt : Nat) (M : List Int), wr.ranges Try.prog 3 (unitElem (H := Unit)) c w.heap.size m D left cnt ∧ (∀ x ∈ M, x ∈ L) ∧ Come M0 (fun _ => true) M left ∧ w.grownBy wr none)
    (fun _ wr => wr.rangeLeft c w.heap.size)
  case atStart => exact ⟨_, _, [], hrg0, by simp, come_start _ HD.out, hg0⟩
  case round =>
    obtain ⟨left, cnt, M, hrg, hall, hA, hgr⟩ := hrel
    go_wp2_with (first | (at_next; refine wpList_next_ranges _ rfl _ rfl 3 law3 (unitElem (H := Unit)) (Value.int .i64) (fun _ : Unit => Value.agg #[]) invK invU c w.heap.size m _ _ _ rfl hrg ?_ ?_))
    · intro hc0 hl0
      go_wp2
      go_ret
      have : (M0.all fun x => decide (x ∈ L)) = true := List.all_eq_true.2 fun x hx => by
        simp only [decide_eq_true_eq]
        exact hall x ((hA x).2 ⟨⟨hx, hl0 _⟩, rfl⟩)
      exact ⟨by rw [this]; rfl, hgr⟩
    · intro x kl yd yp w2 cnt2 hkey hlk hv hat hrg2 hlt hg2 hs2 hen
      obtain ⟨x', ex, rfl, hwx⟩ := Maps.keyOf_int_inv Try.underlying3 hkey
      injection ex with _ ex
      subst ex
      have hin := come_has HD.out hat
      have hgn := hgr.andThen hg2 (fun j hj => by cases hj; exact Or.inl (Nat.le_refl _))
      have HH := Aside0.mk (has_any b n L x w2 (HS.out.kept hgn (by simp)) hwx)
      clear hs2
      by_cases hx : x ∈ L
      · have hd : decide (x ∈ L) = true := decide_eq_true hx
        rw [hd] at HH
        go_wp2_with (go_at_call 43; refine (HH.out).mono ?_; rintro e w4 ⟨rfl, hg4⟩)
        have hrg4 := hrg2.kept hg4 (by simp) (by simp)
        go_roundw
        case rel => exact ⟨_, cnt2, M ++ [x], hrg4, fun y hy => by
            rcases List.mem_append.1 hy with hy | hy
            · exact hall y hy
            · rw [List.mem_singleton.1 hy]; exact hx, come_yes hA hin rfl, hgn.trans hg4⟩
        case measure => rw [hrg4.left_eq, hrg.left_eq]; exact hlt
      · have hd : decide (x ∈ L) = false := decide_eq_false hx
        rw [hd] at HH
        go_wp2_with (go_at_call 43; refine (HH.out).mono ?_; rintro e w4 ⟨rfl, hg4⟩)
        go_ret
        have : (M0.all fun x => decide (x ∈ L)) = false := List.all_eq_false.2 ⟨x, hin, by simpa using hx⟩
        exact ⟨by rw [this]; rfl, hgn.trans hg4⟩
end Go.Proofs.Ytmlhgafinkcfcaa.SetW
