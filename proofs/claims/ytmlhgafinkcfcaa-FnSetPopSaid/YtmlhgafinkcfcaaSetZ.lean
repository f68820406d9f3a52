/- Sets of whole numbers: the sorted list, what two have in common, the set of a map's keys. -/
import Derived.Test.YtmlhgafinkcfcaaSetY
set_option linter.unusedVariables false
set_option linter.unusedSimpArgs false
namespace Go.Proofs.Ytmlhgafinkcfcaa.SetW
open Go Go.RowKit Go.Maps Go.Sort Go.MapKept Go.ChangeMaps Go.Proofs.YtmlhgafinkcfcaaW.PrintWords

set_option maxRecDepth 100000 in
set_option maxHeartbeats 2000000 in
theorem list_of (a : Value) (n : Nat) (L : List Int) (w : World) (hn : n ≤ 4294967296000)
    (HU : Aside0 (Calls Try.prog 57 #[a] w fun e w' => ∃ (g cap : Nat) (ss : List Int), e = .returned (.slice (some ⟨g, 0, none⟩) ss.length cap) ∧ ss.mergeSort leI = ks L ∧ w.heap.size ≤ g ∧ ss.length ≤ n ∧
      w'.ownsRow w.heap.size 3 1 (.slice (some ⟨g, 0, none⟩) ss.length cap) ss.length (ss.map (Value.int .i64)) ∧ Below w.heap.size w w')) :
    Calls Try.prog 47 #[a] w fun e w' => ∃ v : Value, e = .returned v ∧ w'.ownsRow w.heap.size 3 1 v (ks L).length ((ks L).map (Value.int .i64)) ∧ Below w.heap.size w w' := by
  go_enter Try.func47, Try.ntmps47
  go_wp2_with (go_at_call 57; refine (HU.out).mono ?_; rintro e w1 ⟨g, cap, ss, rfl, hss, hbase, hlen, hrow, hbel⟩)
  obtain ⟨cur, hb, h1, h2, h3, h4⟩ : ∃ cur : Array Value, w1.heap[g]? = some (.cells cur 3 (0, 0)) ∧ ss.length ≤ cap ∧ cap ≤ maxLen ∧ cur.size = cap * 1 ∧ cur.toList.take ss.length = ss.map (Value.int .i64) := by
    rcases hrow.2 with ⟨h0, _⟩ | ⟨g', cap', cur, hv, hg, hb, h1, h2, h3, h4⟩
    · cases h0
    cases hv
    exact ⟨cur, hb, h1, h2, h3, by rw [Nat.mul_one] at h4; exact h4⟩
  have hH : Holds (Value.int .i64) w1 g 0 ss.toArray := holds_of_blockI hb h4
  have hgl : g < w1.heap.size := (Array.getElem?_eq_some_iff.1 hb).1
  have hsort := Try.slices_Sort_int g 0 cap ss w1 hH hgl (by omega)
  have hl2 : (ss.mergeSort fun x y => decide (x ≤ y)).length = ss.length := List.length_mergeSort ss
  rw [show (ss.mergeSort fun x y => decide (x ≤ y)) = ks L from hss] at hsort hl2
  clear hH
  go_wp2_with (go_at_call 58; refine hsort.mono ?_; rintro e w' ⟨rfl, nn, os, rfl⟩)
  go_ret
  have hg := grownBy_sortedI (w := w1) (g := g) (n := nn) (os := os) (ks L).toArray
  have hro := ownsRow_sortedI (n := nn) (os := os) (ts := ks L) hl2 hbase hb h1 h2 h3
  exact ⟨_, rfl, by rw [hl2]; exact hro, hbel.grown hg hbel.size (fun j hj => by cases hj; exact hbase)⟩
theorem list_any (b n : Nat) (L : List Int) (w : World) (hs : IsSet w b n L) (hn : n ≤ 4294967296000) :
    Calls Try.prog 47 #[.map (some b)] w fun e w' => ∃ v : Value, e = .returned v ∧ w'.ownsRow w.heap.size 3 1 v (ks L).length ((ks L).map (Value.int .i64)) ∧ Below w.heap.size w w' :=
  list_of _ n L w hn ⟨unsorted_any b n L w hs hn⟩
theorem list_nil (w : World) :
    Calls Try.prog 47 #[.map none] w fun e w' => ∃ v : Value, e = .returned v ∧ w'.ownsRow w.heap.size 3 1 v (ks []).length ((ks []).map (Value.int .i64)) ∧ Below w.heap.size w w' :=
  list_of _ 0 [] w (Nat.zero_le _) ⟨(unsorted_nil w).mono fun e w' h => by obtain ⟨g, cap, h1, h2, h3, h4⟩ := h; exact ⟨g, cap, [], h1, rfl, h2, Nat.le_refl _, h3, h4⟩⟩

theorem len_ks (b n : Nat) (L : List Int) (w : World) (hs : IsSet w b n L) :
    Calls Try.prog 56 #[.map (some b)] w fun e w' => e = .returned (.int .i64 (ks L).length) ∧ w = w' := by
  obtain ⟨D, hown, hD⟩ := hs
  have h1 := size_ks hown hD
  clear hD
  go_enter Try.func56, Try.ntmps56
  go_wp2_with (at_len; refine wpList_len_own _ rfl _ 50 rfl 3 78 Try.underlying50 _ b n D rfl hown ?_)
  go_ret
  exact ⟨by rw [← h1]; rfl, rfl⟩

set_option maxRecDepth 100000 in
set_option maxHeartbeats 4000000 in
theorem inter_lt (b n c m : Nat) (L M0 : List Int) (w : World) (hs : IsSet w b n L) (hq : IsSet w c m M0) (hn : n + m + 1 < maxLen) (hlt : (ks L).length < (ks M0).length) :
    Calls Try.prog 34 #[.map (some b), .map (some c)] w fun e w' => e = .returned (.map (some w.heap.size)) ∧ IsSet w' w.heap.size (n + m) (L.filter fun x => decide (x ∈ M0)) ∧ Below w.heap.size w w' := by
  have hbl := hs.lt
  have hcl := hq.lt
  have HC0 := Aside0.mk (new_none w)
  have HS := Aside0.mk hs
  have HQ := Aside0.mk hq
  have hp : (((ks L).length : Int) < ((ks M0).length : Int)) = True := eq_true (by omega)
  clear hs hq
  go_enter Try.func34, Try.ntmps34
  go_wp2_with (first
    | (go_at_call 31; refine (HC0.out).mono ?_; rintro e w1 ⟨rfl, hs1, hb1⟩; have HS0 := Aside0.mk (HS.out.kept (grown_of_below hb1 none) (by simp)); have HQ0 := Aside0.mk (HQ.out.kept (grown_of_below hb1 none) (by simp)); have HL1 := Aside0.mk (len_ks b n L w1 HS0.out); have HL2 := Aside0.mk (len_ks c m M0 w1 HQ0.out); have hlt1 := hs1.lt; have HS1 := Aside0.mk hs1; clear hs1 HC0)
    | (go_at_call 56; (with_reducible refine (HL1.out).mono ?_); rintro e wx ⟨rfl, hwx⟩; subst hwx; clear HL1)
    | (go_at_call 56; (with_reducible refine (HL2.out).mono ?_); rintro e wx ⟨rfl, hwx⟩; subst hwx; clear HL2; obtain ⟨D, hown, hD⟩ := HS0.out; have HD := Aside0.mk hD; have hsz := hown.size_le; clear hD)
    | (at_range; refine wpList_range_own _ rfl _ 50 rfl 3 78 law3 Try.underlying50 _ b n D rfl hown ?_; intro w0 hrg0 hg0 hs0))
  try go_frame
  go_loopw [8] (fun _ wr => ∃ (left : Lit → Bool) (cnt : Nat) (M : List Int), wr.ranges Try.prog 3 (unitElem (H := Unit)) b w1.heap.size n D left cnt ∧ cnt ≤ Maps.size D ∧
      IsSet wr w.heap.size (Maps.size D - cnt) M ∧ IsSet wr c m M0 ∧ Come L (fun x => decide (x ∈ M0)) M left ∧ Below w.heap.size w wr ∧ w1.heap.size ≤ wr.heap.size)
    (fun _ wr => wr.rangeLeft b w1.heap.size)
  case atStart =>
    exact ⟨_, _, [], hrg0, Nat.le_refl _, (((HS1.out).kept hg0 (by simp)).mono (Nat.zero_le _)), (HQ0.out).kept hg0 (by simp), come_start _ HD.out, hb1.grown hg0 (Nat.le_of_lt hlt1) (fun j hj => by cases hj), hg0.size⟩
  case round =>
    obtain ⟨left, cnt, M, hrg, hcs, hout, hoc, hA, hnx, hws⟩ := hrel
    go_wp2_with (first | (at_next; refine wpList_next_ranges _ rfl _ rfl 3 law3 (unitElem (H := Unit)) (Value.int .i64) (fun _ : Unit => Value.agg #[]) invK invU b w1.heap.size n _ _ _ rfl hrg ?_ ?_))
    · intro hc0 hl0
      go_wp2
      go_ret
      subst hc0
      exact ⟨rfl, (hout.mono (by omega)).congr (fun x => by rw [List.mem_filter, hA x]; simp [hl0]), hnx⟩
    · intro x kl yd yp w2 cnt2 hkey hlk hv hat hrg2 hlt hg2 hs2 hen
      obtain ⟨x', ex, rfl, hwx⟩ := Maps.keyOf_int_inv Try.underlying3 hkey
      injection ex with _ ex
      subst ex
      have hin := come_has HD.out hat
      have hout1 := hout.kept hg2 (fun e => by have := Option.some.inj e; omega)
      have hoc1 := hoc.kept hg2 (fun e => by have := Option.some.inj e; omega)
      have HH := Aside0.mk (has_any c m M0 x w2 hoc1 hwx)
      have HC := Aside0.mk (fun w4 (g : w2.grownBy w4 none) => insert_one _ _ M x w4 (hout1.kept g (by simp)) (by omega) hwx)
      clear hs2
      by_cases hx : x ∈ M0
      · have hd : decide (x ∈ M0) = true := decide_eq_true hx
        rw [hd] at HH
        go_wp2_with (first | (go_at_call 43; refine (HH.out).mono ?_; rintro e w4 ⟨rfl, hg4⟩; have HC4 := Aside0.mk (HC.out w4 hg4)) | (go_at_call 37; refine (HC4.out).mono ?_; rintro e w3 ⟨rfl, hs3, hg3⟩; go_frame))
        have hrg3 := ((hrg2.kept hg4 (by simp) (by simp)).alloc (.cells #[.int .i64 x] 3)).kept hg3 (fun e => by have := Option.some.inj e; omega) (fun e => by have := Option.some.inj e; omega)
        have hoc3 := ((hoc1.kept hg4 (by simp)).alloc (.cells #[.int .i64 x] 3)).kept hg3 (fun e => by have := Option.some.inj e; omega)
        go_roundw
        case rel =>
          exact ⟨_, cnt2, _, hrg3, by omega, hs3.mono (by omega), hoc3, come_yes hA hin (by simp [hx]),
            (((hnx.grown hg2 hnx.size (fun j hj => by cases hj; omega)).grown hg4 (by have := hnx.size; have := hg2.size; omega) (fun j hj => by cases hj)).alloc (by have := hnx.size; have := hg2.size; have := hg4.size; omega) _).grown hg3 (by have := hnx.size; have := hg2.size; have := hg4.size; simp; omega) (fun j hj => by cases hj; exact Nat.le_refl _), by have := hg2.size; have := hg4.size; have := hg3.size; simp at this; omega⟩
        case measure => rw [hrg3.left_eq, hrg.left_eq]; exact hlt
      · have hd : decide (x ∈ M0) = false := decide_eq_false hx
        rw [hd] at HH
        go_wp2_with (go_at_call 43; refine (HH.out).mono ?_; rintro e w4 ⟨rfl, hg4⟩)
        have hrg4 := hrg2.kept hg4 (by simp) (by simp)
        go_roundw
        case rel =>
          exact ⟨_, cnt2, M, hrg4, by omega, (hout1.kept hg4 (by simp)).mono (by omega), hoc1.kept hg4 (by simp), come_no hA (by simp [hx]),
            (hnx.grown hg2 hnx.size (fun j hj => by cases hj; omega)).grown hg4 (by have := hnx.size; have := hg2.size; omega) (fun j hj => by cases hj), by have := hg2.size; have := hg4.size; omega⟩
        case measure => rw [hrg4.left_eq, hrg.left_eq]; exact hlt

set_option maxRecDepth 100000 in
set_option maxHeartbeats 4000000 in
theorem inter_ge (b n c m : Nat) (L M0 : List Int) (w : World) (hs : IsSet w b n L) (hq : IsSet w c m M0) (hn : n + m + 1 < maxLen) (hlt : ¬ (ks L).length < (ks M0).length) :
    Calls Try.prog 34 #[.map (some b), .map (some c)] w fun e w' => e = .returned (.map (some w.heap.size)) ∧ IsSet w' w.heap.size (n + m) (L.filter fun x => decide (x ∈ M0)) ∧ Below w.heap.size w w' := by
  have hbl := hs.lt
  have hcl := hq.lt
  have HC0 := Aside0.mk (new_none w)
  have HS := Aside0.mk hs
  have HQ := Aside0.mk hq
  have hp : (((ks L).length : Int) < ((ks M0).length : Int)) = False := eq_false (by omega)
  clear hs hq
  go_enter Try.func34, Try.ntmps34
  go_wp2_with (first
    | (go_at_call 31; refine (HC0.out).mono ?_; rintro e w1 ⟨rfl, hs1, hb1⟩; have HS0 := Aside0.mk (HS.out.kept (grown_of_below hb1 none) (by simp)); have HQ0 := Aside0.mk (HQ.out.kept (grown_of_below hb1 none) (by simp)); have HL1 := Aside0.mk (len_ks b n L w1 HS0.out); have HL2 := Aside0.mk (len_ks c m M0 w1 HQ0.out); have hlt1 := hs1.lt; have HS1 := Aside0.mk hs1; clear hs1 HC0)
    | (go_at_call 56; (with_reducible refine (HL1.out).mono ?_); rintro e wx ⟨rfl, hwx⟩; subst hwx; clear HL1)
    | (go_at_call 56; (with_reducible refine (HL2.out).mono ?_); rintro e wx ⟨rfl, hwx⟩; subst hwx; clear HL2; obtain ⟨D, hown, hD⟩ := HQ0.out; have HD := Aside0.mk hD; have hsz := hown.size_le; clear hD)
    | (at_range; refine wpList_range_own _ rfl _ 50 rfl 3 78 law3 Try.underlying50 _ c m D rfl hown ?_; intro w0 hrg0 hg0 hs0))
  try go_frame
  go_loopw [8] (fun _ wr => ∃ (left : Lit → Bool) (cnt : Nat) (M : List Int), wr.ranges Try.prog 3 (unitElem (H := Unit)) c w1.heap.size m D left cnt ∧ cnt ≤ Maps.size D ∧
      IsSet wr w.heap.size (Maps.size D - cnt) M ∧ IsSet wr b n L ∧ Come M0 (fun x => decide (x ∈ L)) M left ∧ Below w.heap.size w wr ∧ w1.heap.size ≤ wr.heap.size)
    (fun _ wr => wr.rangeLeft c w1.heap.size)
  case atStart =>
    exact ⟨_, _, [], hrg0, Nat.le_refl _, (((HS1.out).kept hg0 (by simp)).mono (Nat.zero_le _)), (HS0.out).kept hg0 (by simp), come_start _ HD.out, hb1.grown hg0 (Nat.le_of_lt hlt1) (fun j hj => by cases hj), hg0.size⟩
  case round =>
    obtain ⟨left, cnt, M, hrg, hcs, hout, hoc, hA, hnx, hws⟩ := hrel
    go_wp2_with (first | (at_next; refine wpList_next_ranges _ rfl _ rfl 3 law3 (unitElem (H := Unit)) (Value.int .i64) (fun _ : Unit => Value.agg #[]) invK invU c w1.heap.size m _ _ _ rfl hrg ?_ ?_))
    · intro hc0 hl0
      go_wp2
      go_ret
      subst hc0
      exact ⟨rfl, (hout.mono (by omega)).congr (fun x => by rw [List.mem_filter, hA x]; simp [hl0, and_comm]), hnx⟩
    · intro x kl yd yp w2 cnt2 hkey hlk hv hat hrg2 hlt hg2 hs2 hen
      obtain ⟨x', ex, rfl, hwx⟩ := Maps.keyOf_int_inv Try.underlying3 hkey
      injection ex with _ ex
      subst ex
      have hin := come_has HD.out hat
      have hout1 := hout.kept hg2 (fun e => by have := Option.some.inj e; omega)
      have hoc1 := hoc.kept hg2 (fun e => by have := Option.some.inj e; omega)
      have HH := Aside0.mk (has_any b n L x w2 hoc1 hwx)
      have HC := Aside0.mk (fun w4 (g : w2.grownBy w4 none) => insert_one _ _ M x w4 (hout1.kept g (by simp)) (by omega) hwx)
      clear hs2
      by_cases hx : x ∈ L
      · have hd : decide (x ∈ L) = true := decide_eq_true hx
        rw [hd] at HH
        go_wp2_with (first | (go_at_call 43; refine (HH.out).mono ?_; rintro e w4 ⟨rfl, hg4⟩; have HC4 := Aside0.mk (HC.out w4 hg4)) | (go_at_call 37; refine (HC4.out).mono ?_; rintro e w3 ⟨rfl, hs3, hg3⟩; go_frame))
        have hrg3 := ((hrg2.kept hg4 (by simp) (by simp)).alloc (.cells #[.int .i64 x] 3)).kept hg3 (fun e => by have := Option.some.inj e; omega) (fun e => by have := Option.some.inj e; omega)
        have hoc3 := ((hoc1.kept hg4 (by simp)).alloc (.cells #[.int .i64 x] 3)).kept hg3 (fun e => by have := Option.some.inj e; omega)
        go_roundw
        case rel =>
          exact ⟨_, cnt2, _, hrg3, by omega, hs3.mono (by omega), hoc3, come_yes hA hin (by simp [hx]),
            (((hnx.grown hg2 hnx.size (fun j hj => by cases hj; omega)).grown hg4 (by have := hnx.size; have := hg2.size; omega) (fun j hj => by cases hj)).alloc (by have := hnx.size; have := hg2.size; have := hg4.size; omega) _).grown hg3 (by have := hnx.size; have := hg2.size; have := hg4.size; simp; omega) (fun j hj => by cases hj; exact Nat.le_refl _), by have := hg2.size; have := hg4.size; have := hg3.size; simp at this; omega⟩
        case measure => rw [hrg3.left_eq, hrg.left_eq]; exact hlt
      · have hd : decide (x ∈ L) = false := decide_eq_false hx
        rw [hd] at HH
        go_wp2_with (go_at_call 43; refine (HH.out).mono ?_; rintro e w4 ⟨rfl, hg4⟩)
        have hrg4 := hrg2.kept hg4 (by simp) (by simp)
        go_roundw
        case rel =>
          exact ⟨_, cnt2, M, hrg4, by omega, (hout1.kept hg4 (by simp)).mono (by omega), hoc1.kept hg4 (by simp), come_no hA (by simp [hx]),
            (hnx.grown hg2 hnx.size (fun j hj => by cases hj; omega)).grown hg4 (by have := hnx.size; have := hg2.size; omega) (fun j hj => by cases hj), by have := hg2.size; have := hg4.size; omega⟩
        case measure => rw [hrg4.left_eq, hrg.left_eq]; exact hlt

theorem intersection_any (b n c m : Nat) (L M0 : List Int) (w : World) (hs : IsSet w b n L) (hq : IsSet w c m M0) (hn : n + m + 1 < maxLen) :
    Calls Try.prog 34 #[.map (some b), .map (some c)] w fun e w' => e = .returned (.map (some w.heap.size)) ∧ IsSet w' w.heap.size (n + m) (L.filter fun x => decide (x ∈ M0)) ∧ Below w.heap.size w w' := by
  by_cases h : (ks L).length < (ks M0).length
  · exact inter_lt b n c m L M0 w hs hq hn h
  · exact inter_ge b n c m L M0 w hs hq hn h

/-- A block that is a map from just these numbers to bools. -/
def IsKeys (w : World) (b n : Nat) (L : List Int) : Prop :=
  ∃ D : DataW Unit, w.ownsMap Try.prog 3 (plainElem (H := Unit) Try.prog 4) b n D ∧ ∀ x : Int, Maps.has D (.int .i64 x) = decide (x ∈ L)
theorem invB (v : Value) (y : DataW Unit × List MemPlace) (_ : plainElem (H := Unit) Try.prog 4 v = some y) : ∃ x : Value, v = x := ⟨v, rfl⟩

set_option maxRecDepth 100000 in
set_option maxHeartbeats 2000000 in
theorem keyset_any (b n : Nat) (L : List Int) (w : World) (hs : IsKeys w b n L) (hn : n + 1 < maxLen) :
    Calls Try.prog 44 #[.map (some b)] w fun e w' => e = .returned (.map (some w.heap.size)) ∧ IsSet w' w.heap.size n L ∧ Below w.heap.size w w' := by
  obtain ⟨D, hown, hD⟩ := hs
  have hbl := hown.lt
  have hsz := hown.size_le
  have HD := Aside0.mk hD
  have hmm := run_made (Maps.size D)
  have e1 : (w.alloc (.map #[] 0)).heap.size = w.heap.size + 1 := by simp
  clear hD
  go_enter Try.func44, Try.ntmps44
  go_wp2_with (first
    | (at_len; refine wpList_len_own _ rfl _ 57 rfl 3 4 Try.underlying57 _ b n D rfl hown ?_)
    | (at_range; refine wpList_range_own _ rfl _ 57 rfl 3 4 law3 Try.underlying57 _ b n D rfl (hown.alloc _) ?_; intro w0 hrg0 hg0 hs0))
  try go_frame
  rw [e1] at hrg0 hs0 ⊢
  go_loopw [4] (fun _ wr => ∃ (left : Lit → Bool) (cnt : Nat) (M : List Int), wr.ranges Try.prog 3 (plainElem (H := Unit) Try.prog 4) b (w.heap.size + 1) n D left cnt ∧ cnt ≤ Maps.size D ∧
      IsSet wr w.heap.size (Maps.size D - cnt) M ∧ Come L (fun _ => true) M left ∧ Below w.heap.size w wr)
    (fun _ wr => wr.rangeLeft b (w.heap.size + 1))
  case atStart =>
    exact ⟨_, _, [], hrg0, Nat.le_refl _, (((IsSet.made w).kept hg0 (by simp)).mono (Nat.zero_le _)), come_start _ HD.out, ((Below.refl _ _).alloc (Nat.le_refl _) _).grown hg0 (by simp) (fun j hj => by cases hj)⟩
  case round =>
    obtain ⟨left, cnt, M, hrg, hcs, hout, hA, hnx⟩ := hrel
    go_wp2_with (first | (at_next; refine wpList_next_ranges _ rfl _ rfl 3 law3 (plainElem (H := Unit) Try.prog 4) (Value.int .i64) (fun v : Value => v) invK invB b (w.heap.size + 1) n _ _ _ rfl hrg ?_ ?_))
    · intro hc0 hl0
      go_wp2
      go_ret
      subst hc0
      exact ⟨rfl, (hout.mono (by omega)).congr (fun x => by rw [hA x]; simp [hl0]), hnx⟩
    · intro x cv kl yd yp w2 cnt2 hkey hlk hv hat hrg2 hlt hg2 hs2 hen
      obtain ⟨x', ex, rfl, hwx⟩ := Maps.keyOf_int_inv Try.underlying3 hkey
      injection ex with _ ex
      subst ex
      have hin := come_has HD.out hat
      have hout1 := hout.kept hg2 (by simp)
      have HC := Aside0.mk (insert_one _ _ M x w2 hout1 (by omega) hwx)
      clear hs2
      go_wp2_with (go_at_call 37; refine (HC.out).mono ?_; rintro e w3 ⟨rfl, hs3, hg3⟩; go_frame)
      have hrg3 := (hrg2.alloc (.cells #[.int .i64 x] 3)).kept hg3 (fun e => by have := Option.some.inj e; omega) (fun e => by have := Option.some.inj e; omega)
      go_roundw
      case rel =>
        exact ⟨_, cnt2, _, hrg3, by omega, hs3.mono (by omega), come_yes hA hin rfl,
          ((hnx.grown hg2 hnx.size (fun j hj => by cases hj; exact Nat.le_succ _)).alloc (by have := hnx.size; have := hg2.size; omega) _).grown hg3 (by have := hnx.size; have := hg2.size; simp; omega) (fun j hj => by cases hj; exact Nat.le_refl _)⟩
      case measure => rw [hrg3.left_eq, hrg.left_eq]; exact hlt
end Go.Proofs.Ytmlhgafinkcfcaa.SetW
