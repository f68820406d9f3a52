/- Sets of whole numbers, which are maps to nothing: what each of their functions does, told over lists. -/
import Derived.Test.YtmlhgafinkcfcaaProg
import Derived.Test.YtmlhgafinkcfcaaWMore
import Derived.Test.YtmlhgafinkcfcaaWRepsOne
import Derived.Test.YtmlhgafinkcfcaaWWords
import Derived.WalkKit
import Derived.WalkMore
import Derived.KernelRfl
import Derived.Maps.OwnSet
import Derived.Maps.RangeWalk
import Derived.Maps.Ext
import Derived.Maps.AppendAt
import Derived.Deep.AppendLies
set_option linter.unusedVariables false
set_option linter.unusedSimpArgs false
namespace Go.Proofs.Ytmlhgafinkcfcaa.SetW
open Go.RowKit Go.Maps Go.Proofs.YtmlhgafinkcfcaaW.PrintWords

theorem law3 : Keyed Try.prog 3 := int_keyed Try.underlying3
theorem zeroU (w : World) : (zeroValue 78).run Try.prog w = .ok (.agg #[]) w := by kernel_rfl

/-- A block that is a set of just these numbers. -/
def IsSet (w : World) (b n : Nat) (L : List Int) : Prop :=
  ∃ D : DataW Unit, w.ownsMap Try.prog 3 (unitElem (H := Unit)) b n D ∧ ∀ x : Int, Maps.has D (.int .i64 x) = decide (x ∈ L)

theorem IsSet.congr {w : World} {b n : Nat} {L M : List Int} (h : IsSet w b n L) (e : ∀ x, x ∈ L ↔ x ∈ M) : IsSet w b n M := by
  obtain ⟨D, h1, h2⟩ := h
  exact ⟨D, h1, fun x => by rw [h2 x]; exact decide_eq_decide.2 (e x)⟩
theorem IsSet.mono {w : World} {b n m : Nat} {L : List Int} (h : IsSet w b n L) (e : n ≤ m) : IsSet w b m L := by
  obtain ⟨D, h1, h2⟩ := h
  exact ⟨D, h1.mono e, h2⟩
theorem IsSet.lt {w : World} {b n : Nat} {L : List Int} (h : IsSet w b n L) : b < w.heap.size := by
  obtain ⟨D, h1, h2⟩ := h
  exact h1.lt
theorem IsSet.kept {w w' : World} {b n : Nat} {L : List Int} {row : Option Nat} (h : IsSet w b n L) (g : w.grownBy w' row) (hr : some b ≠ row) : IsSet w' b n L := by
  obtain ⟨D, h1, h2⟩ := h
  exact ⟨D, h1.kept g hr, h2⟩
theorem IsSet.drewN {w : World} {b n : Nat} {L : List Int} (h : IsSet w b n L) (k : Nat) : IsSet (w.drewN k) b n L := by
  obtain ⟨D, ⟨es, clock, h1⟩, h2⟩ := h
  exact ⟨D, ⟨es, clock, by simpa using h1⟩, h2⟩
theorem IsSet.alloc {w : World} {b n : Nat} {L : List Int} (h : IsSet w b n L) (o : Obj) : IsSet (w.alloc o) b n L := by
  obtain ⟨D, h1, h2⟩ := h
  exact ⟨D, h1.alloc o, h2⟩
/-- A cell's block is no map's. -/
theorem IsSet.far {w : World} {b n : Nat} {L : List Int} (h : IsSet w b n L) {a : Addr} {v : Value} (hc : w.cell? a = some v) : some a.block ≠ some b := by
  obtain ⟨D, ⟨es, clock, h1, _⟩, _⟩ := h
  intro e
  obtain rfl : a.block = b := Option.some.inj e
  simp [World.cell?, h1] at hc
theorem IsSet.made (w : World) : IsSet (w.alloc (.map #[] 0)) w.heap.size 0 [] := by
  refine ⟨.map [], ?_, fun x => by simp [Maps.has]⟩
  exact World.ownsMap_made _ _ _ _

theorem run_made (n : Int) (w : World) : (Instr.makeMap 50 (some (.int .i64 n))).run Try.prog w = .ok (.map (some w.heap.size)) (w.alloc (.map #[] 0)) := by
  simp [Instr.makeMap, run_underlying Try.underlying50, asInt, asIntOf, Result.andThen]
theorem has_ins {D : DataW Unit} (hm : IsMap D) (x y : Int) (d : DataW Unit) : Maps.has (D.put (.int .i64 y) d) (.int .i64 x) = (Maps.has D (.int .i64 x) || decide (x = y)) := by
  by_cases e : x = y
  · subst e; rw [has_put_same hm (show WideAt.IsKeyLit (Lit.int .i64 x) from trivial)]; simp
  · rw [has_put_other (fun z => e (by injection z))]; simp [e]
theorem has_rem {D : DataW Unit} (x y : Int) : Maps.has (D.del (.int .i64 y)) (.int .i64 x) = (Maps.has D (.int .i64 x) && !decide (x = y)) := by
  by_cases e : x = y
  · subst e; rw [has_del_same]; simp
  · rw [has_del_other (fun z => e (by injection z))]; simp [e]
theorem rd_at {xs : List Int} {k : Nat} (h : k < xs.length) : rd xs (k : Int) = xs[k] := by
  unfold rd; rw [Int.toNat_natCast, List.getD_eq_getElem?_getD, List.getElem?_eq_getElem h]; rfl
theorem take_more {xs : List Int} {k : Nat} (h : k < xs.length) : xs.take (k + 1) = xs.take k ++ [rd xs (k : Int)] := by
  rw [List.take_succ_eq_append_getElem h, rd_at h]

set_option maxHeartbeats 1000000 in
theorem insert_any (b n : Nat) (L : List Int) (A : Option Addr) (c : Nat) (xs : List Int) (w : World) (hs : IsSet w b n L) (hr : Kd.C (Kd.int .i64) w A xs.length xs) (hn : n + xs.length < maxLen) (hw : ∀ x ∈ xs, (Lit.int .i64 x).wf = true) :
    Calls Try.prog 37 #[.map (some b), .slice A xs.length c] w fun e w' => e = .returned (.map (some b)) ∧ IsSet w' b (n + xs.length) (L ++ xs) ∧ w.grownBy w' (some b) := by
  have HS := Aside0.mk hs
  have HR := Aside0.mk hr
  have HN := Aside0.mk hn
  have HW := Aside0.mk hw
  clear hs hr hn hw
  go_enter Try.func37, Try.ntmps37
  go_wp2
  go_loopw [6, 9] (fun _ v wr => ∃ k : Nat, k ≤ xs.length ∧ v = .int .i64 k ∧ Aside0 (IsSet wr b (n + k) (L ++ xs.take k)) ∧ Aside0 (w.grownBy wr (some b))) (fun _ i _ => xs.length - (intOf i).toNat)
  case atStart => exact ⟨0, Nat.zero_le _, rfl, ⟨by simpa using HS.out⟩, ⟨World.grownBy.refl _ _⟩⟩
  case round =>
    obtain ⟨k, hk, rfl, HS1, HG⟩ := hrel
    have hm : xs.length ≤ 9223372036854775807 := by have := HN.out; unfold maxLen at this; omega
    by_cases hlt : k < xs.length
    · have p : (0 ≤ (k : Int)) = True := eq_true (by omega)
      have q : ((k : Int) < (xs.length : Int)) = True := eq_true (by omega)
      obtain ⟨ad, rfl, hx⟩ := Kd.at_int HR.out (k : Int) (by omega) (by omega)
      have hx' := (HG.out).cell hx ((HS.out).far hx)
      clear hx
      simp only [Int.toNat_natCast] at hx'
      have hwk : (Lit.int .i64 (rd xs (k : Int))).wf = true := HW.out _ (by unfold rd; rw [Int.toNat_natCast, List.getD_eq_getElem?_getD, List.getElem?_eq_getElem hlt]; exact List.getElem_mem hlt)
      obtain ⟨D, hown, hD⟩ := HS1.out
      have HD := Aside0.mk hD
      have HI := Aside0.mk hown.isMap
      clear hD
      go_wp2_with (first | (at_mapUpdate; refine wpList_mapUpdate_own _ rfl _ _ _ 50 rfl 3 78 law3 Try.underlying50 (unitElem (H := Unit)) b (n + k) D rfl hown ?m1 _ _ _ rfl rfl (keyOf_int_mk Try.underlying3 hwk) _ [] unitElem_mk ?_; (case m1 => have := HN.out; unfold maxLen at this ⊢; omega); intro w1 hown1 hgrow1; go_frame))
      have HO1 := Aside0.mk hown1
      have HG1 := Aside0.mk hgrow1
      clear hown1 hgrow1 hown
      go_wp2
      go_roundw
      case rel =>
        refine ⟨k + 1, by omega, by go_num, ⟨⟨_, HO1.out, fun x => ?_⟩⟩, ⟨HG.out.trans HG1.out⟩⟩
        rw [has_ins HI.out, HD.out x, take_more hlt, Bool.eq_iff_iff]
        simp only [Bool.or_eq_true, decide_eq_true_eq, List.mem_append, List.mem_singleton]
        exact or_assoc
      case measure => simp [intOf]; omega
    · go_wp2
      go_ret
      have : k = xs.length := by omega
      subst this
      exact ⟨rfl, by simpa using HS1.out, HG.out⟩

set_option maxRecDepth 100000 in
set_option maxHeartbeats 1000000 in
theorem new_any (A : Option Addr) (c : Nat) (xs : List Int) (w : World) (hr : Kd.C (Kd.int .i64) w A xs.length xs) (hn : xs.length < maxLen) (hw : ∀ x ∈ xs, (Lit.int .i64 x).wf = true) :
    Calls Try.prog 31 #[.slice A xs.length c] w fun e w' => e = .returned (.map (some w.heap.size)) ∧ IsSet w' w.heap.size xs.length xs ∧ Below w.heap.size w w' := by
  have HC := insert_any w.heap.size 0 [] A c xs (w.alloc (.map #[] 0)) (IsSet.made w) (Kd.C_alloc hr _) (by omega) hw
  simp only [Nat.zero_add, List.nil_append] at HC
  have HC := Aside0.mk HC
  have hmm := run_made xs.length
  have hm : xs.length ≤ 9223372036854775807 := by unfold maxLen at hn; omega
  clear hr hn hw
  go_enter Try.func31, Try.ntmps31
  go_wp2_with (go_at_call 37; refine (HC.out).mono ?_; rintro e w1 ⟨rfl, hs, hg⟩)
  go_ret
  exact ⟨rfl, hs, ((Below.refl _ _).alloc (Nat.le_refl _) _).grown hg (by simp) (fun j hj => by cases hj; exact Nat.le_refl _)⟩

set_option maxHeartbeats 1000000 in
theorem has_any (b n : Nat) (L : List Int) (x : Int) (w : World) (hs : IsSet w b n L) (hw : (Lit.int .i64 x).wf = true) :
    Calls Try.prog 43 #[.map (some b), .int .i64 x] w fun e w' => e = .returned (.bool (decide (x ∈ L))) ∧ w.grownBy w' none := by
  obtain ⟨D, hown, hD⟩ := hs
  have HD := Aside0.mk hD
  clear hD
  go_enter Try.func43, Try.ntmps43
  go_wp2_with (first | (at_lookup; refine wpList_lookup_own_unit _ rfl _ _ 50 rfl 3 78 law3 Try.underlying50 (zeroU _) b n D rfl hown _ _ rfl (keyOf_int_mk Try.underlying3 hw) ?_))
  go_ret
  exact ⟨by first | rfl | (rw [HD.out]; rfl), World.grownBy_alloc _ _ _⟩

set_option maxHeartbeats 1000000 in
theorem delete_any (b n : Nat) (L : List Int) (A : Option Addr) (c : Nat) (xs : List Int) (w : World) (hs : IsSet w b n L) (hr : Kd.C (Kd.int .i64) w A xs.length xs) (hn : xs.length < maxLen) (hw : ∀ x ∈ xs, (Lit.int .i64 x).wf = true) :
    Calls Try.prog 38 #[.map (some b), .slice A xs.length c] w fun e w' => e = .returned (.map (some b)) ∧ IsSet w' b n (L.filter fun x => !xs.contains x) ∧ w.grownBy w' (some b) := by
  have HS := Aside0.mk hs
  have HR := Aside0.mk hr
  have HW := Aside0.mk hw
  have hm : xs.length ≤ 9223372036854775807 := by unfold maxLen at hn; omega
  clear hs hr hn hw
  go_enter Try.func38, Try.ntmps38
  go_wp2
  go_loopw [6, 9] (fun _ v wr => ∃ k : Nat, k ≤ xs.length ∧ v = .int .i64 k ∧ Aside0 (IsSet wr b n (L.filter fun x => !(xs.take k).contains x)) ∧ Aside0 (w.grownBy wr (some b))) (fun _ i _ => xs.length - (intOf i).toNat)
  case atStart => exact ⟨0, Nat.zero_le _, rfl, ⟨(HS.out).congr fun x => by simp⟩, ⟨World.grownBy.refl _ _⟩⟩
  case round =>
    obtain ⟨k, hk, rfl, HS1, HG⟩ := hrel
    by_cases hlt : k < xs.length
    · have p : (0 ≤ (k : Int)) = True := eq_true (by omega)
      have q : ((k : Int) < (xs.length : Int)) = True := eq_true (by omega)
      obtain ⟨ad, rfl, hx⟩ := Kd.at_int HR.out (k : Int) (by omega) (by omega)
      have hx' := (HG.out).cell hx ((HS.out).far hx)
      clear hx
      simp only [Int.toNat_natCast] at hx'
      have hwk : (Lit.int .i64 (rd xs (k : Int))).wf = true := HW.out _ (by rw [rd_at hlt]; exact List.getElem_mem hlt)
      obtain ⟨D, hown, hD⟩ := HS1.out
      have HD := Aside0.mk hD
      clear hD
      go_wp2_with (first | (at_delete; refine wpList_delete_own _ rfl _ _ 50 3 rfl 78 law3 Try.underlying50 _ b n D rfl hown _ _ rfl (keyOf_int_mk Try.underlying3 hwk) ?_; intro w1 hown1 hturn1; go_frame))
      have HO1 := Aside0.mk hown1
      have HG1 := Aside0.mk hturn1.grown
      clear hown1 hturn1 hown
      go_wp2
      go_roundw
      case rel =>
        refine ⟨k + 1, by omega, by go_num, ⟨⟨_, HO1.out, fun x => ?_⟩⟩, ⟨HG.out.trans HG1.out⟩⟩
        rw [has_rem, HD.out x, take_more hlt, Bool.eq_iff_iff]
        simp only [Bool.and_eq_true, decide_eq_true_eq, List.mem_filter, List.contains_append, Bool.not_or, Bool.not_eq_true', decide_eq_false_iff_not, List.contains_cons, List.contains_nil, Bool.or_false, beq_eq_false_iff_ne, ne_eq]
        exact and_assoc
      case measure => simp [intOf]; omega
    · go_wp2
      go_ret
      have : k = xs.length := by omega
      subst this
      exact ⟨rfl, by simpa using HS1.out, HG.out⟩

theorem len_any (b n : Nat) (L : List Int) (w : World) (hs : IsSet w b n L) :
    Calls Try.prog 56 #[.map (some b)] w fun e w' => (∃ m : Int, e = .returned (.int .i64 m)) ∧ w = w' := by
  obtain ⟨D, hown, hD⟩ := hs
  clear hD
  go_enter Try.func56, Try.ntmps56
  go_wp2_with (at_len; refine wpList_len_own _ rfl _ 50 rfl 3 78 Try.underlying50 _ b n D rfl hown ?_)
  go_ret
  exact ⟨⟨_, rfl⟩, rfl⟩
theorem invK (key : Value) (kl : Lit) (h : keyOf Try.prog 3 key = some kl) : ∃ x, key = Value.int .i64 x := by
  obtain ⟨x, hx, _⟩ := Maps.keyOf_int_inv Try.underlying3 h
  exact ⟨x, hx⟩
theorem invU (v : Value) (y : DataW Unit × List MemPlace) (h : unitElem v = some y) : ∃ _ : Unit, v = Value.agg #[] := ⟨(), (unitElem_inv h).1⟩

/-- What was taken of a set on the way through it. -/
def Come (L : List Int) (p : Int → Bool) (M : List Int) (left : Lit → Bool) : Prop := ∀ x, x ∈ M ↔ (x ∈ L ∧ left (.int .i64 x) = false) ∧ p x = true
theorem come_start {D : DataW Unit} {L : List Int} (p : Int → Bool) (hD : ∀ x : Int, Maps.has D (.int .i64 x) = decide (x ∈ L)) : Come L p [] (Maps.has D) := by
  intro x
  rw [hD x]; simp
theorem come_has {D : DataW Unit} {L : List Int} (hD : ∀ x : Int, Maps.has D (.int .i64 x) = decide (x ∈ L)) {x : Int} {y : DataW Unit} (hat : ∀ zd, D.atKey (.int .i64 x) zd = y) : x ∈ L := by
  have := has_true_of_atKey hat
  rw [hD x] at this
  exact of_decide_eq_true this
theorem same_int (x y : Int) : (Lit.int .i64 y).sameKey (.int .i64 x) = decide (y = x) := by simp [Lit.sameKey]
theorem come_yes {L M : List Int} {p : Int → Bool} {left : Lit → Bool} {x : Int} (h : Come L p M left) (hx : x ∈ L) (hp : p x = true) : Come L p (M ++ [x]) (fun z => left z && !z.sameKey (.int .i64 x)) := by
  intro y
  rw [List.mem_append, List.mem_singleton, h y]
  show _ ↔ (_ ∧ (left (.int .i64 y) && !(Lit.int .i64 y).sameKey (.int .i64 x)) = false) ∧ _
  rw [same_int]
  by_cases e : y = x
  · subst e; simp [hx, hp]
  · simp [e]
theorem come_no {L M : List Int} {p : Int → Bool} {left : Lit → Bool} {x : Int} (h : Come L p M left) (hp : p x = false) : Come L p M (fun z => left z && !z.sameKey (.int .i64 x)) := by
  intro y
  rw [h y]
  show _ ↔ (_ ∧ (left (.int .i64 y) && !(Lit.int .i64 y).sameKey (.int .i64 x)) = false) ∧ _
  rw [same_int]
  by_cases e : y = x
  · subst e; simp [hp]
  · simp [e]
theorem one_C (w : World) (e : TypeId) (x : Int) : Kd.C (Kd.int .i64) (w.alloc (.cells #[.int .i64 x] e)) (some ⟨w.heap.size, 0, none⟩) 1 [x] := by
  have : Kd.R (Kd.int .i64) e (w.alloc (.cells #[.int .i64 x] e)) w.heap.size (fun _ => True) (.slice (some ⟨w.heap.size, 0, none⟩) 1 1) [x] :=
    ⟨fun _ _ => trivial, [.int .i64 x], ⟨rfl, Or.inr ⟨w.heap.size, 1, #[.int .i64 x], rfl, Nat.le_refl _, blk_new w _, by simp, by decide, rfl, rfl⟩⟩, Reps.one (show Kd.M (Kd.int .i64) _ _ _ x [.int .i64 x] from rfl) (Reps.none _ _)⟩
  exact (Kd.R_reads' this).2.2
/-- One number is put into a set. -/
theorem insert_one (b n : Nat) (L : List Int) (x : Int) (w : World) (hs : IsSet w b n L) (hn : n + 1 < maxLen) (hw : (Lit.int .i64 x).wf = true) :
    Calls Try.prog 37 #[.map (some b), .slice (some ⟨w.heap.size, 0, none⟩) 1 1] (w.alloc (.cells #[.int .i64 x] 3)) fun e w' => e = .returned (.map (some b)) ∧ IsSet w' b (n + 1) (L ++ [x]) ∧ (w.alloc (.cells #[.int .i64 x] 3)).grownBy w' (some b) :=
  insert_any b n L (some ⟨w.heap.size, 0, none⟩) 1 [x] _ (hs.alloc _) (one_C w 3 x) hn (by intro y hy; rw [List.mem_singleton.1 hy]; exact hw)

set_option maxRecDepth 100000 in
set_option maxHeartbeats 2000000 in
theorem clone_any (b n : Nat) (L : List Int) (w : World) (hs : IsSet w b n L) (hn : n + 1 < maxLen) :
    Calls Try.prog 32 #[.map (some b)] w fun e w' => e = .returned (.map (some w.heap.size)) ∧ IsSet w' w.heap.size n L ∧ Below w.heap.size w w' := by
  obtain ⟨D, hown, hD⟩ := hs
  have hbl := hown.lt
  have hsz := hown.size_le
  have HD := Aside0.mk hD
  have hmm := run_made (Maps.size D)
  have e1 : (w.alloc (.map #[] 0)).heap.size = w.heap.size + 1 := by simp
  clear hD
  go_enter Try.func32, Try.ntmps32
  go_wp2_with (first
    | (at_len; refine wpList_len_own _ rfl _ 50 rfl 3 78 Try.underlying50 _ b n D rfl hown ?_)
    | (at_range; refine wpList_range_own _ rfl _ 50 rfl 3 78 law3 Try.underlying50 _ b n D rfl (hown.alloc _) ?_; intro w0 hrg0 hg0 hs0))
  try go_frame
  rw [e1] at hrg0 hs0 ⊢
  go_loopw [4] (fun _ wr => ∃ (left : Lit → Bool) (cnt : Nat) (M : List Int), wr.ranges Try.prog 3 (unitElem (H := Unit)) b (w.heap.size + 1) n D left cnt ∧ cnt ≤ Maps.size D ∧
      IsSet wr w.heap.size (Maps.size D - cnt) M ∧ Come L (fun _ => true) M left ∧ Below w.heap.size w wr)
    (fun _ wr => wr.rangeLeft b (w.heap.size + 1))
  case atStart =>
    exact ⟨_, _, [], hrg0, Nat.le_refl _, (((IsSet.made w).kept hg0 (by simp)).mono (Nat.zero_le _)), come_start _ HD.out, ((Below.refl _ _).alloc (Nat.le_refl _) _).grown hg0 (by simp) (fun j hj => by cases hj)⟩
  case round =>
    obtain ⟨left, cnt, M, hrg, hcs, hout, hA, hnx⟩ := hrel
    go_wp2_with (first | (at_next; refine wpList_next_ranges _ rfl _ rfl 3 law3 (unitElem (H := Unit)) (Value.int .i64) (fun _ : Unit => Value.agg #[]) invK invU b (w.heap.size + 1) n _ _ _ rfl hrg ?_ ?_))
    · intro hc0 hl0
      go_wp2
      go_ret
      subst hc0
      exact ⟨rfl, (hout.mono (by omega)).congr (fun x => by rw [hA x]; simp [hl0]), hnx⟩
    · intro x kl yd yp w2 cnt2 hkey hlk hv hat hrg2 hlt hg2 hs2 hen
      obtain ⟨x', ex, rfl, hwx⟩ := Maps.keyOf_int_inv Try.underlying3 hkey
      injection ex with _ ex
      subst ex
      have hin := come_has HD.out hat
      have hout1 := hout.kept hg2 (by simp)
      have HC := Aside0.mk (insert_one _ _ M x w2 hout1 (by omega) hwx)
      clear hs2
      go_wp2_with (go_at_call 37; refine (HC.out).mono ?_; rintro e w3 ⟨rfl, hs3, hg3⟩; go_frame)
      have hrg3 := (hrg2.alloc (.cells #[.int .i64 x] 3)).kept hg3 (fun e => by have := Option.some.inj e; omega) (fun e => by have := Option.some.inj e; omega)
      go_roundw
      case rel =>
        exact ⟨_, cnt2, _, hrg3, by omega, hs3.mono (by omega), come_yes hA hin rfl,
          ((hnx.grown hg2 hnx.size (fun j hj => by cases hj; exact Nat.le_succ _)).alloc (by have := hnx.size; have := hg2.size; omega) _).grown hg3 (by have := hnx.size; have := hg2.size; simp; omega) (fun j hj => by cases hj; exact Nat.le_refl _)⟩
      case measure => rw [hrg3.left_eq, hrg.left_eq]; exact hlt
set_option maxRecDepth 100000 in
set_option maxHeartbeats 2000000 in
theorem union_any (b n c m : Nat) (L M0 : List Int) (w : World) (hs : IsSet w b n L) (hq : IsSet w c m M0) (hn : n + m + 1 < maxLen) :
    Calls Try.prog 33 #[.map (some b), .map (some c)] w fun e w' => e = .returned (.map (some w.heap.size)) ∧ IsSet w' w.heap.size (n + m) (L ++ M0) ∧ Below w.heap.size w w' := by
  have hcl := hq.lt
  have HC0 := Aside0.mk (clone_any b n L w hs (by omega))
  have HQ := Aside0.mk hq
  clear hs hq
  go_enter Try.func33, Try.ntmps33
  go_wp2_with (first
    | (go_at_call 32; refine (HC0.out).mono ?_; rintro e w1 ⟨rfl, hs1, hb1⟩; have hq1 := HQ.out.kept (grown_of_below hb1 none) (by simp); have hlt1 := hs1.lt; obtain ⟨D, hown, hD⟩ := hq1; have HD := Aside0.mk hD; have HS1 := Aside0.mk hs1; have hsz := hown.size_le; clear hD hs1 HC0)
    | (at_range; refine wpList_range_own _ rfl _ 50 rfl 3 78 law3 Try.underlying50 _ c m D rfl hown ?_; intro w0 hrg0 hg0 hs0))
  try go_frame
  go_loopw [6] (fun _ wr => ∃ (left : Lit → Bool) (cnt : Nat) (M : List Int), wr.ranges Try.prog 3 (unitElem (H := Unit)) c w1.heap.size m D left cnt ∧ cnt ≤ Maps.size D ∧
      IsSet wr w.heap.size (n + (Maps.size D - cnt)) (L ++ M) ∧ Come M0 (fun _ => true) M left ∧ Below w.heap.size w wr ∧ w1.heap.size ≤ wr.heap.size)
    (fun _ wr => wr.rangeLeft c w1.heap.size)
  case atStart =>
    exact ⟨_, _, [], hrg0, Nat.le_refl _, ((((HS1.out).kept hg0 (by simp)).mono (Nat.le_add_right _ _)).congr (fun x => by simp)), come_start _ HD.out, hb1.grown hg0 (Nat.le_of_lt hlt1) (fun j hj => by cases hj), hg0.size⟩
  case round =>
    obtain ⟨left, cnt, M, hrg, hcs, hout, hA, hnx, hws⟩ := hrel
    go_wp2_with (first | (at_next; refine wpList_next_ranges _ rfl _ rfl 3 law3 (unitElem (H := Unit)) (Value.int .i64) (fun _ : Unit => Value.agg #[]) invK invU c w1.heap.size m _ _ _ rfl hrg ?_ ?_))
    · intro hc0 hl0
      go_wp2
      go_ret
      subst hc0
      exact ⟨rfl, (hout.mono (by omega)).congr (fun x => by rw [List.mem_append, List.mem_append, hA x]; simp [hl0]), hnx⟩
    · intro x kl yd yp w2 cnt2 hkey hlk hv hat hrg2 hlt hg2 hs2 hen
      obtain ⟨x', ex, rfl, hwx⟩ := Maps.keyOf_int_inv Try.underlying3 hkey
      injection ex with _ ex
      subst ex
      have hin := come_has HD.out hat
      have hout1 := hout.kept hg2 (fun e => by have := Option.some.inj e; omega)
      have HC := Aside0.mk (insert_one _ _ (L ++ M) x w2 hout1 (by omega) hwx)
      clear hs2
      go_wp2_with (go_at_call 37; refine (HC.out).mono ?_; rintro e w3 ⟨rfl, hs3, hg3⟩; go_frame)
      have hrg3 := (hrg2.alloc (.cells #[.int .i64 x] 3)).kept hg3 (fun e => by have := Option.some.inj e; omega) (fun e => by have := Option.some.inj e; omega)
      go_roundw
      case rel =>
        exact ⟨_, cnt2, _, hrg3, by omega, (hs3.mono (by omega)).congr (fun y => by simp [or_assoc]), come_yes hA hin rfl,
          ((hnx.grown hg2 hnx.size (fun j hj => by cases hj; omega)).alloc (by have := hnx.size; have := hg2.size; omega) _).grown hg3 (by have := hnx.size; have := hg2.size; simp; omega) (fun j hj => by cases hj; exact Nat.le_refl _), by have := hg2.size; have := hg3.size; simp at this; omega⟩
      case measure => rw [hrg3.left_eq, hrg.left_eq]; exact hlt

theorem nil_C (w : World) : Kd.C (Kd.int .i64) w none 0 [] := (Kd.R_reads' (Kd.R_nil (Kd.int .i64) 3 w 0 (fun _ => True))).2.2
/-- An empty set is made. -/
theorem new_none (w : World) : Calls Try.prog 31 #[.slice none 0 0] w fun e w' => e = .returned (.map (some w.heap.size)) ∧ IsSet w' w.heap.size 0 [] ∧ Below w.heap.size w w' :=
  new_any none 0 [] w (nil_C w) (by decide) (by simp)

set_option maxRecDepth 100000 in
set_option maxHeartbeats 2000000 in
theorem difference_any (b n c m : Nat) (L M0 : List Int) (w : World) (hs : IsSet w b n L) (hq : IsSet w c m M0) (hn : n + 1 < maxLen) :
    Calls Try.prog 35 #[.map (some b), .map (some c)] w fun e w' => e = .returned (.map (some w.heap.size)) ∧ IsSet w' w.heap.size n (L.filter fun x => !decide (x ∈ M0)) ∧ Below w.heap.size w w' := by
  have hbl := hs.lt
  have hcl := hq.lt
  have HC0 := Aside0.mk (new_none w)
  have HS := Aside0.mk hs
  have HQ := Aside0.mk hq
  clear hs hq
  go_enter Try.func35, Try.ntmps35
  go_wp2_with (first
    | (go_at_call 31; refine (HC0.out).mono ?_; rintro e w1 ⟨rfl, hs1, hb1⟩; have hS1 := HS.out.kept (grown_of_below hb1 none) (by simp); have HQ1 := Aside0.mk (HQ.out.kept (grown_of_below hb1 none) (by simp)); have hlt1 := hs1.lt; obtain ⟨D, hown, hD⟩ := hS1; have HD := Aside0.mk hD; have HS1 := Aside0.mk hs1; have hsz := hown.size_le; clear hD hs1 HC0)
    | (at_range; refine wpList_range_own _ rfl _ 50 rfl 3 78 law3 Try.underlying50 _ b n D rfl hown ?_; intro w0 hrg0 hg0 hs0))
  try go_frame
  go_loopw [6] (fun _ wr => ∃ (left : Lit → Bool) (cnt : Nat) (M : List Int), wr.ranges Try.prog 3 (unitElem (H := Unit)) b w1.heap.size n D left cnt ∧ cnt ≤ Maps.size D ∧
      IsSet wr w.heap.size (Maps.size D - cnt) M ∧ IsSet wr c m M0 ∧ Come L (fun x => !decide (x ∈ M0)) M left ∧ Below w.heap.size w wr ∧ w1.heap.size ≤ wr.heap.size)
    (fun _ wr => wr.rangeLeft b w1.heap.size)
  case atStart =>
    exact ⟨_, _, [], hrg0, Nat.le_refl _, (((HS1.out).kept hg0 (by simp)).mono (Nat.zero_le _)), (HQ1.out).kept hg0 (by simp), come_start _ HD.out, hb1.grown hg0 (Nat.le_of_lt hlt1) (fun j hj => by cases hj), hg0.size⟩
  case round =>
    obtain ⟨left, cnt, M, hrg, hcs, hout, hoc, hA, hnx, hws⟩ := hrel
    go_wp2_with (first | (at_next; refine wpList_next_ranges _ rfl _ rfl 3 law3 (unitElem (H := Unit)) (Value.int .i64) (fun _ : Unit => Value.agg #[]) invK invU b w1.heap.size n _ _ _ rfl hrg ?_ ?_))
    · intro hc0 hl0
      go_wp2
      go_ret
      subst hc0
      exact ⟨rfl, (hout.mono (by omega)).congr (fun x => by rw [List.mem_filter, hA x]; simp [hl0]), hnx⟩
    · intro x kl yd yp w2 cnt2 hkey hlk hv hat hrg2 hlt hg2 hs2 hen
      obtain ⟨x', ex, rfl, hwx⟩ := Maps.keyOf_int_inv Try.underlying3 hkey
      injection ex with _ ex
      subst ex
      have hin := come_has HD.out hat
      have hout1 := hout.kept hg2 (fun e => by have := Option.some.inj e; omega)
      have hoc1 := hoc.kept hg2 (fun e => by have := Option.some.inj e; omega)
      have HH := Aside0.mk (has_any c m M0 x w2 hoc1 hwx)
      have HC := Aside0.mk (fun w4 (g : w2.grownBy w4 none) => insert_one _ _ M x w4 (hout1.kept g (by simp)) (by omega) hwx)
      clear hs2
      by_cases hx : x ∈ M0
      · have hd : decide (x ∈ M0) = true := decide_eq_true hx
        rw [hd] at HH
        go_wp2_with (go_at_call 43; refine (HH.out).mono ?_; rintro e w4 ⟨rfl, hg4⟩)
        have hrg4 := hrg2.kept hg4 (by simp) (by simp)
        go_roundw
        case rel =>
          exact ⟨_, cnt2, M, hrg4, by omega, (hout1.kept hg4 (by simp)).mono (by omega), hoc1.kept hg4 (by simp), come_no hA (by simp [hx]),
            (hnx.grown hg2 hnx.size (fun j hj => by cases hj; omega)).grown hg4 (by have := hnx.size; have := hg2.size; omega) (fun j hj => by cases hj), by have := hg2.size; have := hg4.size; omega⟩
        case measure => rw [hrg4.left_eq, hrg.left_eq]; exact hlt
      · have hd : decide (x ∈ M0) = false := decide_eq_false hx
        rw [hd] at HH
        go_wp2_with (first | (go_at_call 43; refine (HH.out).mono ?_; rintro e w4 ⟨rfl, hg4⟩; have HC4 := Aside0.mk (HC.out w4 hg4)) | (go_at_call 37; refine (HC4.out).mono ?_; rintro e w3 ⟨rfl, hs3, hg3⟩; go_frame))
        have hrg3 := ((hrg2.kept hg4 (by simp) (by simp)).alloc (.cells #[.int .i64 x] 3)).kept hg3 (fun e => by have := Option.some.inj e; omega) (fun e => by have := Option.some.inj e; omega)
        have hoc3 := ((hoc1.kept hg4 (by simp)).alloc (.cells #[.int .i64 x] 3)).kept hg3 (fun e => by have := Option.some.inj e; omega)
        go_roundw
        case rel =>
          exact ⟨_, cnt2, _, hrg3, by omega, hs3.mono (by omega), hoc3, come_yes hA hin (by simp [hx]),
            (((hnx.grown hg2 hnx.size (fun j hj => by cases hj; omega)).grown hg4 (by have := hnx.size; have := hg2.size; omega) (fun j hj => by cases hj)).alloc (by have := hnx.size; have := hg2.size; have := hg4.size; omega) _).grown hg3 (by have := hnx.size; have := hg2.size; have := hg4.size; simp; omega) (fun j hj => by cases hj; exact Nat.le_refl _), by have := hg2.size; have := hg4.size; have := hg3.size; simp at this; omega⟩
        case measure => rw [hrg3.left_eq, hrg.left_eq]; exact hlt
end Go.Proofs.Ytmlhgafinkcfcaa.SetW
