/- Versions: their numbers compared. -/
import Derived.Test.YtomoefldmgfaoaaDoorPvU
set_option linter.unusedVariables false
set_option linter.unusedSimpArgs false
namespace Go.Proofs.YtomoefldmgfaoaaDoor.Pv
open Go Go.RowKit Go.Proofs.YtomoefldmgfaoaaDoor Go.Proofs.YtomoefldmgfaoaaDoorW.PrintWords Go.Proofs.YtomoefldmgfaoaaDoor.PvH Go.Proofs.YtomoefldmgfaoaaDoor.Txt Go.Proofs.YtomoefldmgfaoaaDoor.Small

def zeros (l : List Nat) : Bool := l.all (· == 0)
/-- The order of two versions' numbers; those that there are not are 0. -/
def vcmp : List Nat → List Nat → Int
  | [], [] => 0
  | [], b :: bs => if zeros (b :: bs) then 0 else -1
  | a :: at0, [] => if zeros (a :: at0) then 0 else 1
  | a :: at0, b :: bs => if b < a then 1 else if a < b then -1 else vcmp at0 bs
theorem vcmp_nil_r (l : List Nat) : vcmp l [] = if zeros l then 0 else 1 := by cases l <;> rfl
theorem vcmp_nil_l (l : List Nat) : vcmp [] l = if zeros l then 0 else -1 := by cases l <;> rfl
set_option maxHeartbeats 6400000 in
set_option maxRecDepth 100000 in
theorem zeros_calls (c o : Nat) (cap : Nat) (xs : List Nat) (w : World) (hx : ∀ (j : Nat) (h : j < xs.length), w.cell? ⟨c, o + j, none⟩ = some (.int .u64 (xs[j] : Int))) (hl : xs.length ≤ 1099511627776) :
    Calls Tryd.prog 99 #[.slice (some ⟨c, o, none⟩) xs.length cap] w fun e w' => e = .returned (.bool (zeros xs)) ∧ Below w.heap.size w w' := by
  have HX := Aside0.mk hx
  have HL := Aside0.mk hl
  clear hx hl
  go_enter Tryd.func99, Tryd.ntmps99
  go_wp2
  go_loopw [7] (fun i wr => ∃ k : Nat, k ≤ xs.length ∧ i = .int .i64 (k : Int) ∧ Aside0 (zeros xs = zeros (xs.drop k)) ∧ Aside0 (Below w.heap.size w wr)) (fun i _ => xs.length - (intOf i).toNat)
  case atStart => exact ⟨0, Nat.zero_le _, rfl, ⟨rfl⟩, ⟨Below.refl _ _⟩⟩
  case round =>
    obtain ⟨k, hk, rfl, HZ, HB⟩ := hrel
    by_cases hlt : k < xs.length
    · have p : (0 ≤ (k : Int)) = True := eq_true (by omega)
      have q : ((k : Int) < (xs.length : Int)) = True := eq_true (by omega)
      have x0 : wr.cell? ⟨c, o + k, none⟩ = some (.int .u64 (xs[k] : Int)) := pw_cell_below HB.out (HX.out k hlt)
      have w9 : wrap64 ((k : Int) + 1) = (k : Int) + 1 := w64 _ (by omega) (by have := HL.out; omega)
      have hd : xs.drop k = xs[k] :: xs.drop (k + 1) := List.drop_eq_getElem_cons hlt
      by_cases hz : xs[k] = 0
      · have H' : Aside0 (zeros xs = zeros (xs.drop (k + 1))) := ⟨by rw [HZ.out, hd]; unfold zeros; rw [List.all_cons, hz]; rfl⟩
        rw [hz] at x0
        clear hd hz
        go_wp2
        go_roundw
        case measure => rw [w9]; exact less_of hlt
        case rel => exact ⟨k + 1, hlt, by rw [w9]; simp, H', HB⟩
      · have H' : Aside0 (zeros xs = false) := ⟨by
          rw [HZ.out, hd]; unfold zeros
          rw [List.all_cons, beq_eq_false_iff_ne.2 hz]; rfl⟩
        have z1 : ((xs[k] : Nat) : Int) ≠ 0 := by omega
        generalize xs[k] = u at x0 z1
        have z2 : ((u : Int) == 0) = false := beq_eq_false_iff_ne.2 z1
        have z3 : ((u : Int) = 0) = False := eq_false z1
        have z4 : ((u : Int) != 0) = true := bne_iff_ne.2 z1
        have z5 : (u = 0) = False := eq_false (by omega)
        clear hd hz z1
        go_wp2
        go_ret
        exact ⟨by rw [H'.out]; rfl, HB.out⟩
    · have q : ((k : Int) < (xs.length : Int)) = False := eq_false (by omega)
      have H' : Aside0 (zeros xs = true) := ⟨by rw [HZ.out, List.drop_eq_nil_of_le (by omega)]; rfl⟩
      go_wp2
      go_ret
      exact ⟨by rw [H'.out]; rfl, HB.out⟩
theorem ver_tail {w : World} {g c : Nat} {ns : List Nat} {sem : Bool} {p b : ByteArray} (h : IsVer w g c ns sem p b) (k : Nat) : ∀ (j : Nat) (hj : j < (ns.drop k).length), w.cell? ⟨c, k + j, none⟩ = some (.int .u64 ((ns.drop k)[j] : Int)) := fun j hj => by
  rw [List.length_drop] at hj
  have := ver_at h (k + j) (by omega)
  rw [List.getElem_drop]; exact this
set_option maxHeartbeats 12800000 in
set_option maxRecDepth 100000 in
theorem cmp_calls (ga ca : Nat) (na : List Nat) (sa : Bool) (pa ba : ByteArray) (gb cb : Nat) (nb : List Nat) (sb : Bool) (pb bb : ByteArray) (hs : (sa && sb) = false) (hla : na.length ≤ 1099511627776) (hlb : nb.length ≤ 1099511627776) (w : World) (hA : IsVer w ga ca na sa pa ba) (hB : IsVer w gb cb nb sb pb bb) :
    Calls Tryd.prog 87 #[.pointer (some ⟨ga, 0, none⟩), .pointer (some ⟨gb, 0, none⟩)] w fun e w' => e = .returned (.int .i64 (vcmp na nb)) ∧ Below w.heap.size w w' := by
  have mixed : Tryd.prog.follows .mixedOrders = true := by kernel_rfl
  have hu1 := Tryd.underlying90
  have VA := Aside0.mk hA
  have VB := Aside0.mk hB
  have LA := Aside0.mk hla
  have LB := Aside0.mk hlb
  have a0 : w.cell? ⟨ga, 0, none⟩ = some (.slice (some ⟨ca, 0, none⟩) na.length na.length) := blk_cell hA.1 0
  have b0 : w.cell? ⟨gb, 0, none⟩ = some (.slice (some ⟨cb, 0, none⟩) nb.length nb.length) := blk_cell hB.1 0
  clear hA hB hla hlb
  go_enter Tryd.func87, Tryd.ntmps87
  go_wp2
  go_loopw [7] (fun i wr => ∃ k : Nat, k ≤ na.length ∧ k ≤ nb.length ∧ i = .int .i64 (k : Int) ∧ Aside0 (vcmp na nb = vcmp (na.drop k) (nb.drop k)) ∧ Aside0 (Below w.heap.size w wr)) (fun i _ => na.length - (intOf i).toNat)
  case atStart => exact ⟨0, Nat.zero_le _, Nat.zero_le _, rfl, ⟨rfl⟩, ⟨Below.refl _ _⟩⟩
  case round =>
    clear a0 b0
    obtain ⟨k, hka, hkb, rfl, HC, HB⟩ := hrel
    have WA := Aside0.mk (VA.out.below HB.out)
    have WB := Aside0.mk (VB.out.below HB.out)
    have a0 : wr.cell? ⟨ga, 0, none⟩ = some (.slice (some ⟨ca, 0, none⟩) na.length na.length) := blk_cell WA.out.1 0
    have b0 : wr.cell? ⟨gb, 0, none⟩ = some (.slice (some ⟨cb, 0, none⟩) nb.length nb.length) := blk_cell WB.out.1 0
    have a1 : wr.cell? ⟨ga, 1, none⟩ = some (.bool sa) := blk_cell WA.out.1 1
    have b1 : wr.cell? ⟨gb, 1, none⟩ = some (.bool sb) := blk_cell WB.out.1 1
    by_cases hlt : k < na.length ∧ k < nb.length
    · obtain ⟨h1, h2⟩ := hlt
      have p : (0 ≤ (k : Int)) = True := eq_true (by omega)
      have q1 : ((k : Int) < (na.length : Int)) = True := eq_true (by omega)
      have q2 : ((k : Int) < (nb.length : Int)) = True := eq_true (by omega)
      have xa : wr.cell? ⟨ca, k, none⟩ = some (.int .u64 (na[k] : Int)) := ver_at WA.out k h1
      have xb : wr.cell? ⟨cb, k, none⟩ = some (.int .u64 (nb[k] : Int)) := ver_at WB.out k h2
      have w9 : wrap64 ((k : Int) + 1) = (k : Int) + 1 := w64 _ (by omega) (by have := LA.out; omega)
      have hd : vcmp na nb = if nb[k] < na[k] then 1 else if na[k] < nb[k] then -1 else vcmp (na.drop (k + 1)) (nb.drop (k + 1)) := by
        rw [HC.out, List.drop_eq_getElem_cons h1, List.drop_eq_getElem_cons h2, vcmp]
      clear a1 b1
      generalize na[k] = x at xa hd
      generalize nb[k] = y at xb hd
      by_cases c1 : y < x
      · have H' : Aside0 (vcmp na nb = 1) := ⟨by rw [hd, if_pos c1]⟩
        have d1 : ((y : Int) < (x : Int)) = True := eq_true (by omega)
        have d2 : (y < x) = True := eq_true c1
        have d3 : decide ((y : Int) < (x : Int)) = true := decide_eq_true (by omega)
        clear hd c1
        go_wp2
        repeat (go_quiet (fail); try go_wp2)
        go_ret
        exact ⟨by rw [H'.out]; rfl, by repeat (first | exact HB.out | apply pw_below_drewN)⟩
      · have d1 : ((y : Int) < (x : Int)) = False := eq_false (by omega)
        have d2 : (y < x) = False := eq_false c1
        have d3 : decide ((y : Int) < (x : Int)) = false := decide_eq_false (by omega)
        by_cases c2 : x < y
        · have H' : Aside0 (vcmp na nb = -1) := ⟨by rw [hd, if_neg c1, if_pos c2]⟩
          have e1 : ((x : Int) < (y : Int)) = True := eq_true (by omega)
          have e2 : (x < y) = True := eq_true c2
          have e3 : decide ((x : Int) < (y : Int)) = true := decide_eq_true (by omega)
          clear hd c1 c2
          go_wp2
          repeat (go_quiet (fail); try go_wp2)
          go_ret
          exact ⟨by rw [H'.out]; rfl, by repeat (first | exact HB.out | apply pw_below_drewN)⟩
        · have H' : Aside0 (vcmp na nb = vcmp (na.drop (k + 1)) (nb.drop (k + 1))) := ⟨by rw [hd, if_neg c1, if_neg c2]⟩
          have e1 : ((x : Int) < (y : Int)) = False := eq_false (by omega)
          have e2 : (x < y) = False := eq_false c2
          have e3 : decide ((x : Int) < (y : Int)) = false := decide_eq_false (by omega)
          clear hd c1 c2
          go_wp2
          repeat (go_quiet (fail); try go_wp2)
          go_roundw
          case measure => rw [w9]; exact less_of h1
          case rel => exact ⟨k + 1, h1, h2, by rw [w9]; simp, H', ⟨by repeat (first | exact HB.out | apply pw_below_drewN)⟩⟩
    · have p : (0 ≤ (k : Int)) = True := eq_true (by omega)
      by_cases c1 : nb.length < na.length
      · obtain rfl : k = nb.length := by omega
        have q1 : ((nb.length : Int) < (na.length : Int)) = True := eq_true (by omega)
        have q2 : ((nb.length : Int) ≤ (na.length : Int)) = True := eq_true (by omega)
        have q3 : ((na.length : Int) < (nb.length : Int)) = False := eq_false (by omega)
        have q4 : (nb.length < na.length) = True := eq_true c1
        have q5 : (na.length < nb.length) = False := eq_false (by omega)
        have q6 : (nb.length ≤ na.length) = True := eq_true (by omega)
        have hz : vcmp na nb = if zeros (na.drop nb.length) then 0 else 1 := by rw [HC.out, List.drop_eq_nil_of_le (Nat.le_refl nb.length), vcmp_nil_r]
        have HO := Aside0.mk (fun w (h : IsVer w ga ca na sa pa ba) => zeros_calls ca nb.length (na.length - nb.length) (na.drop nb.length) w (fun j hj => ver_tail h nb.length j hj) (by rw [List.length_drop]; have := LA.out; omega))
        rw [List.length_drop] at HO
        cases hq : zeros (na.drop nb.length) with
        | false =>
          rw [hq] at hz HO
          have H' : Aside0 (vcmp na nb = 1) := ⟨hz⟩
          clear hz hq
          go_wp2_with (go_at_call 99; (with_reducible refine (HO.out _ WA.out).mono ?_); rintro e w1 ⟨rfl, hb⟩; have B1 := Aside0.mk (below_step HB.out hb); have a1 : w1.cell? ⟨ga, 1, none⟩ = some (.bool sa) := pw_cell_below hb a1; have b1 : w1.cell? ⟨gb, 1, none⟩ = some (.bool sb) := pw_cell_below hb b1; clear hb)
          go_ret
          exact ⟨by rw [H'.out]; rfl, B1.out⟩
        | true =>
          rw [hq] at hz HO
          have H' : Aside0 (vcmp na nb = 0) := ⟨hz⟩
          clear hz hq
          cases sa with
          | false =>
            go_wp2_with (go_at_call 99; (with_reducible refine (HO.out _ WA.out).mono ?_); rintro e w1 ⟨rfl, hb⟩; have B1 := Aside0.mk (below_step HB.out hb); have a1 : w1.cell? ⟨ga, 1, none⟩ = some (.bool false) := pw_cell_below hb a1; have b1 : w1.cell? ⟨gb, 1, none⟩ = some (.bool sb) := pw_cell_below hb b1; clear hb)
            go_ret
            exact ⟨by rw [H'.out]; rfl, B1.out⟩
          | true =>
            cases sb with
            | false =>
              go_wp2_with (go_at_call 99; (with_reducible refine (HO.out _ WA.out).mono ?_); rintro e w1 ⟨rfl, hb⟩; have B1 := Aside0.mk (below_step HB.out hb); have a1 : w1.cell? ⟨ga, 1, none⟩ = some (.bool true) := pw_cell_below hb a1; have b1 : w1.cell? ⟨gb, 1, none⟩ = some (.bool false) := pw_cell_below hb b1; clear hb)
              go_ret
              exact ⟨by rw [H'.out]; rfl, B1.out⟩
            | true => exact absurd hs (by simp)
      · by_cases c2 : na.length < nb.length
        · obtain rfl : k = na.length := by omega
          have q1 : ((na.length : Int) < (nb.length : Int)) = True := eq_true (by omega)
          have q2 : ((na.length : Int) ≤ (nb.length : Int)) = True := eq_true (by omega)
          have q3 : ((nb.length : Int) < (na.length : Int)) = False := eq_false (by omega)
          have q4 : (na.length < nb.length) = True := eq_true c2
          have q5 : (nb.length < na.length) = False := eq_false c1
          have q6 : (na.length ≤ nb.length) = True := eq_true (by omega)
          have hz : vcmp na nb = if zeros (nb.drop na.length) then 0 else -1 := by rw [HC.out, List.drop_eq_nil_of_le (Nat.le_refl na.length), vcmp_nil_l]
          have HO := Aside0.mk (fun w (h : IsVer w gb cb nb sb pb bb) => zeros_calls cb na.length (nb.length - na.length) (nb.drop na.length) w (fun j hj => ver_tail h na.length j hj) (by rw [List.length_drop]; have := LB.out; omega))
          rw [List.length_drop] at HO
          cases hq : zeros (nb.drop na.length) with
          | false =>
            rw [hq] at hz HO
            have H' : Aside0 (vcmp na nb = -1) := ⟨hz⟩
            clear hz hq
            go_wp2_with (go_at_call 99; (with_reducible refine (HO.out _ WB.out).mono ?_); rintro e w1 ⟨rfl, hb⟩; have B1 := Aside0.mk (below_step HB.out hb); have a1 : w1.cell? ⟨ga, 1, none⟩ = some (.bool sa) := pw_cell_below hb a1; have b1 : w1.cell? ⟨gb, 1, none⟩ = some (.bool sb) := pw_cell_below hb b1; clear hb)
            go_ret
            exact ⟨by rw [H'.out]; rfl, B1.out⟩
          | true =>
            rw [hq] at hz HO
            have H' : Aside0 (vcmp na nb = 0) := ⟨hz⟩
            clear hz hq
            cases sa with
            | false =>
              go_wp2_with (go_at_call 99; (with_reducible refine (HO.out _ WB.out).mono ?_); rintro e w1 ⟨rfl, hb⟩; have B1 := Aside0.mk (below_step HB.out hb); have a1 : w1.cell? ⟨ga, 1, none⟩ = some (.bool false) := pw_cell_below hb a1; have b1 : w1.cell? ⟨gb, 1, none⟩ = some (.bool sb) := pw_cell_below hb b1; clear hb)
              go_ret
              exact ⟨by rw [H'.out]; rfl, B1.out⟩
            | true =>
              cases sb with
              | false =>
                go_wp2_with (go_at_call 99; (with_reducible refine (HO.out _ WB.out).mono ?_); rintro e w1 ⟨rfl, hb⟩; have B1 := Aside0.mk (below_step HB.out hb); have a1 : w1.cell? ⟨ga, 1, none⟩ = some (.bool true) := pw_cell_below hb a1; have b1 : w1.cell? ⟨gb, 1, none⟩ = some (.bool false) := pw_cell_below hb b1; clear hb)
                go_ret
                exact ⟨by rw [H'.out]; rfl, B1.out⟩
              | true => exact absurd hs (by simp)
        · have hl : na.length = nb.length := by omega
          have q1 : ((nb.length : Int) < (na.length : Int)) = False := eq_false (by omega)
          have q2 : ((na.length : Int) < (nb.length : Int)) = False := eq_false (by omega)
          have q3 : (nb.length < na.length) = False := eq_false c1
          have q4 : (na.length < nb.length) = False := eq_false c2
          have q5 : ((k : Int) < (na.length : Int)) = False := eq_false (by omega)
          have H' : Aside0 (vcmp na nb = 0) := ⟨by rw [HC.out, List.drop_eq_nil_of_le (by omega), List.drop_eq_nil_of_le (by omega)]; rfl⟩
          clear hl c1 c2 hlt
          cases sa with
          | false =>
            go_wp2
            go_ret
            exact ⟨by rw [H'.out]; rfl, HB.out⟩
          | true =>
            cases sb with
            | false =>
              go_wp2
              go_ret
              exact ⟨by rw [H'.out]; rfl, HB.out⟩
            | true => exact absurd hs (by simp)
end Go.Proofs.YtomoefldmgfaoaaDoor.Pv
