/- Sets of whole numbers: what is left of their functions. -/
import Derived.Test.YtmlhgafinkcfcaaSetX
import Derived.Test.YtmlhgafinkcfcaaShelf
import Derived.Sort.KeysCollected
set_option linter.unusedVariables false
set_option linter.unusedSimpArgs false
namespace Go.Proofs.Ytmlhgafinkcfcaa.SetW
open Go Go.RowKit Go.Maps Go.Sort Go.MapKept Go.ChangeMaps Go.Proofs.YtmlhgafinkcfcaaW.PrintWords

/-! ### the keys of a set as a list -/
theorem intKeys {D : DataW Unit} {w : World} {b n : Nat} {L : List Int} (hown : w.ownsMap Try.prog 3 (unitElem (H := Unit)) b n D) (hD : ∀ x : Int, Maps.has D (.int .i64 x) = decide (x ∈ L)) :
    ∃ S : List Int, S.Nodup ∧ (∀ x, x ∈ S ↔ x ∈ L) ∧ S.length = Maps.size D := by
  obtain ⟨es, rfl, hpw, _⟩ := hown.entries law3
  obtain ⟨es', hD', hko⟩ := hown.keysOf
  obtain rfl : es = es' := by simpa using hD'
  have hk : ∀ p ∈ es, ∃ x : Int, p.1 = .int .i64 x := fun p hp => by
    obtain ⟨v, hv⟩ := hko p hp
    obtain ⟨x, _, hx, _⟩ := Maps.keyOf_int_inv Try.underlying3 hv
    exact ⟨x, hx⟩
  let f : Lit × DataW Unit → Int := fun p => match p.1 with | .int _ x => x | _ => 0
  have hf : ∀ p ∈ es, p.1 = .int .i64 (f p) := fun p hp => by
    obtain ⟨x, hx⟩ := hk p hp
    simp only [f, hx]
  refine ⟨es.map f, ?_, fun x => ?_, by rw [List.length_map]; rfl⟩
  · exact List.pairwise_map.2 (hpw.imp_of_mem fun {p q} hp hq hne e => hne (by rw [hf p hp, hf q hq, e]))
  · have := hD x
    rw [has_eq] at this
    rw [← decide_eq_true_eq (p := x ∈ L), ← this, List.any_eq_true, List.mem_map]
    constructor
    · rintro ⟨p, hp, rfl⟩
      exact ⟨p, hp, by rw [hf p hp, same_int]; simp⟩
    · rintro ⟨p, hp, hs⟩
      rw [hf p hp, same_int] at hs
      exact ⟨p, hp, of_decide_eq_true hs⟩
/-- The members, each once, rising. -/
def uniq : List Int → List Int
  | [] => []
  | x :: l => if x ∈ uniq l then uniq l else x :: uniq l
theorem uniq_mem (l : List Int) (x : Int) : x ∈ uniq l ↔ x ∈ l := by
  induction l with
  | nil => simp [uniq]
  | cons y l ih =>
    unfold uniq
    split
    · rename_i h
      rw [ih, List.mem_cons]
      constructor
      · exact Or.inr
      · rintro (rfl | h')
        · exact (ih.1 (by rw [ih] at *; first | exact h | assumption)) |> fun z => z
        · exact h'
    · rw [List.mem_cons, List.mem_cons, ih]
theorem uniq_nodup (l : List Int) : (uniq l).Nodup := by
  induction l with
  | nil => exact List.nodup_nil
  | cons y l ih =>
    unfold uniq
    split
    · exact ih
    · rename_i h; exact List.nodup_cons.2 ⟨h, ih⟩
abbrev leI : Int → Int → Bool := fun x y => decide (x ≤ y)
def ks (l : List Int) : List Int := (uniq l).mergeSort leI
theorem sort_perm {l l' : List Int} (h : l.Perm l') : l.mergeSort leI = l'.mergeSort leI := by
  have tr : ∀ a b c : Int, leI a b = true → leI b c = true → leI a c = true := fun a b c h1 h2 => by simp only [leI, decide_eq_true_eq] at *; omega
  have tot : ∀ a b : Int, (leI a b || leI b a) = true := fun a b => by simp only [leI, Bool.or_eq_true, decide_eq_true_eq]; omega
  refine List.Perm.eq_of_pairwise (le := fun a b => leI a b = true) (fun a b _ _ h1 h2 => ?_) (List.pairwise_mergeSort tr tot l) (List.pairwise_mergeSort tr tot l') (((List.mergeSort_perm l leI).trans h).trans (List.mergeSort_perm l' leI).symm)
  simp only [leI, decide_eq_true_eq] at h1 h2
  omega
theorem ks_of {S L : List Int} (h1 : S.Nodup) (h2 : ∀ x, x ∈ S ↔ x ∈ L) : S.mergeSort leI = ks L :=
  sort_perm ((List.perm_ext_iff_of_nodup h1 (uniq_nodup L)).2 fun x => by rw [h2 x, uniq_mem])
theorem ks_congr {L M : List Int} (h : ∀ x, x ∈ L ↔ x ∈ M) : ks L = ks M :=
  ks_of (uniq_nodup L) (fun x => by rw [uniq_mem, h x])
theorem ks_mem (l : List Int) (x : Int) : x ∈ ks l ↔ x ∈ l := by unfold ks; rw [List.mem_mergeSort, uniq_mem]
theorem ks_length (l : List Int) : (ks l).length = (uniq l).length := by unfold ks; rw [List.length_mergeSort]
theorem size_ks {D : DataW Unit} {w : World} {b n : Nat} {L : List Int} (hown : w.ownsMap Try.prog 3 (unitElem (H := Unit)) b n D) (hD : ∀ x : Int, Maps.has D (.int .i64 x) = decide (x ∈ L)) : Maps.size D = (ks L).length := by
  obtain ⟨S, h1, h2, h3⟩ := intKeys hown hD
  rw [← h3, ← ks_of h1 h2, List.length_mergeSort]

set_option maxRecDepth 100000 in
set_option maxHeartbeats 2000000 in
theorem equal_any (b n c m : Nat) (L M0 : List Int) (w : World) (hs : IsSet w b n L) (hq : IsSet w c m M0) :
    Calls Try.prog 42 #[.map (some b), .map (some c)] w fun e w' => e = .returned (.bool (decide ((ks L).length = (ks M0).length) && M0.all fun x => decide (x ∈ L))) ∧ w.grownBy w' none := by
  have HC := Aside0.mk (superset_any b n c m L M0 w hs hq)
  obtain ⟨D, hown, hD⟩ := hs
  obtain ⟨E, hown2, hE⟩ := hq
  have h1 := size_ks hown hD
  have h2 := size_ks hown2 hE
  have H1 := Aside0.mk h1
  have H2 := Aside0.mk h2
  clear hD hE h1 h2
  by_cases hc : Maps.size D = Maps.size E
  · have hb : ((Maps.size D : Int) == (Maps.size E : Int)) = true := beq_iff_eq.2 (by omega)
    have hd : decide ((ks L).length = (ks M0).length) = true := decide_eq_true (by have := H1.out; have := H2.out; omega)
    clear hc
    go_enter Try.func42, Try.ntmps42
    go_wp2_with (first
      | (at_len; refine wpList_len_own _ rfl _ 50 rfl 3 78 Try.underlying50 _ b n D rfl hown ?_)
      | (at_len; refine wpList_len_own _ rfl _ 50 rfl 3 78 Try.underlying50 _ c m E rfl hown2 ?_)
      | (go_at_call 41; refine (HC.out).mono ?_; rintro e w1 ⟨rfl, hg⟩))
    go_ret
    exact ⟨by rw [hd]; rfl, hg⟩
  · have hb : ((Maps.size D : Int) == (Maps.size E : Int)) = false := beq_eq_false_iff_ne.2 (by omega)
    have hd : decide ((ks L).length = (ks M0).length) = false := decide_eq_false (by have := H1.out; have := H2.out; omega)
    clear hc
    go_enter Try.func42, Try.ntmps42
    go_wp2_with (first
      | (at_len; refine wpList_len_own _ rfl _ 50 rfl 3 78 Try.underlying50 _ b n D rfl hown ?_)
      | (at_len; refine wpList_len_own _ rfl _ 50 rfl 3 78 Try.underlying50 _ c m E rfl hown2 ?_))
    go_ret
    exact ⟨by rw [hd]; rfl, World.grownBy.refl _ _⟩

theorem run_clear {b n : Nat} {L : List Int} {w : World} (hs : IsSet w b n L) : ∃ w', (∀ ty, (Builtin.clear_ #[50] ty #[.map (some b)]).run Try.prog w = .ok (.tuple #[]) w') ∧ IsSet w' b 0 [] ∧ w.grownBy w' (some b) := by
  obtain ⟨D, ⟨es, clock, hb, F, _⟩, _⟩ := hs
  refine ⟨setBlock w b (.map #[] clock), fun ty => ?_, ⟨.map [], ⟨#[], clock, heap_setBlock_same hb _, ⟨by simp, stamped_empty clock, by simp⟩, Nat.le_refl _, rfl⟩, fun x => by simp [Maps.has]⟩, World.mapTurned.grown ⟨es, clock, #[], clock, hb, rfl⟩⟩
  simp [Builtin.clear_, run_underlying Try.underlying50, MapKept.run_getObj_map hb, MapKept.run_setObj_map _ hb, Result.andThen, setBlock]

theorem clear_any (b n : Nat) (L : List Int) (w : World) (hs : IsSet w b n L) :
    Calls Try.prog 45 #[.map (some b)] w fun e w' => e = .returned (.map (some b)) ∧ IsSet w' b 0 [] ∧ w.grownBy w' (some b) := by
  obtain ⟨w1, hrun, h1, h2⟩ := run_clear hs
  go_enter Try.func45, Try.ntmps45
  go_wp2
  go_ret
  exact ⟨rfl, h1, h2⟩

set_option maxRecDepth 100000 in
set_option maxHeartbeats 2000000 in
theorem pop_any (b n : Nat) (L : List Int) (w : World) (hs : IsSet w b n L) (hn : n < maxLen) :
    Calls Try.prog 46 #[.map (some b)] w fun e w' => (L = [] ∧ e = .returned (.tuple #[.int .i64 0, .bool false]) ∧ w.grownBy w' (some b)) ∨
      ∃ x, x ∈ L ∧ (Lit.int .i64 x).wf = true ∧ e = .returned (.tuple #[.int .i64 x, .bool true]) ∧ IsSet w' b n (L.filter fun y => !decide (y = x)) ∧ w.grownBy w' (some b) := by
  have HS := Aside0.mk hs
  obtain ⟨D, hown, hD⟩ := hs
  have hbl := hown.lt
  have HD := Aside0.mk hD
  clear hD
  go_enter Try.func46, Try.ntmps46
  go_wp2_with (first | (at_range; refine wpList_range_own _ rfl _ 50 rfl 3 78 law3 Try.underlying50 _ b n D rfl hown ?_; intro w0 hrg0 hg0 hs0))
  try go_frame
  refine wp_loop_rounds 1 ?_
  rw [rounds_succ]
  go_wp2_with (first | (at_next; refine wpList_next_ranges _ rfl _ rfl 3 law3 (unitElem (H := Unit)) (Value.int .i64) (fun _ : Unit => Value.agg #[]) invK invU b w.heap.size n _ _ _ rfl hrg0 ?_ ?_))
  · intro hc0 hl0
    go_wp2
    go_ret2
    refine Or.inl ⟨?_, rfl, hg0.but _⟩
    apply List.eq_nil_iff_forall_not_mem.2
    intro x hx
    have h1 := HD.out x
    rw [hl0, decide_eq_true hx] at h1
    cases h1
  · intro x kl yd yp w2 cnt2 hkey hlk hv hat hrg2 hlt hg2 hs2 hen
    obtain ⟨x', ex, rfl, hwx⟩ := Maps.keyOf_int_inv Try.underlying3 hkey
    injection ex with _ ex
    subst ex
    have hin := come_has HD.out hat
    have hS2 := (HS.out.kept hg0 (by simp)).kept hg2 (fun e => by have := Option.some.inj e; omega)
    have HC := Aside0.mk (delete_any b n L (some ⟨w2.heap.size, 0, none⟩) 1 [x] (w2.alloc (.cells #[.int .i64 x] 3)) (hS2.alloc _) (one_C w2 3 x) (show 1 < maxLen by decide) (by intro y hy; rw [List.mem_singleton.1 hy]; exact hwx))
    have h00 := hg0.size
    clear hs2
    go_wp2_with (go_at_call 38; refine (HC.out).mono ?_; rintro e w3 ⟨rfl, hs3, hg3⟩)
    go_ret2
    refine Or.inr ⟨x, hin, hwx, rfl, hs3.congr fun y => by simp, ?_⟩
    exact (((hg0.but (some b)).andThen hg2 (fun j hj => by cases hj; exact Or.inl (Nat.le_refl _))).andThen (World.grownBy_alloc _ _ (some b)) (fun j hj => Or.inr hj)).trans hg3

theorem info3 : (Try.prog.info? 3).map (fun i => (i.zero, i.size, i.bytes)) = some (some (.int .i64 0), 1, 8) := by kernel_rfl

/-- The numbers taken so far. -/
def Taken (L : List Int) (ss : List Int) (left : Lit → Bool) : Prop := ss.Nodup ∧ Come L (fun _ => true) ss left
theorem taken_more {L ss : List Int} {left : Lit → Bool} {x : Int} (h : Taken L ss left) (hx : x ∈ L) (hl : left (.int .i64 x) = true) : Taken L (ss ++ [x]) (fun z => left z && !z.sameKey (.int .i64 x)) := by
  refine ⟨List.nodup_append.2 ⟨h.1, by simp, fun a ha b hb => ?_⟩, come_yes h.2 hx rfl⟩
  rw [List.mem_singleton.1 hb]
  rintro rfl
  have := ((h.2 a).1 ha).1.2
  rw [hl] at this
  cases this

set_option maxRecDepth 100000 in
set_option maxHeartbeats 2000000 in
theorem unsorted_any (b n : Nat) (L : List Int) (w : World) (hs : IsSet w b n L) (hn : n ≤ 4294967296000) :
    Calls Try.prog 57 #[.map (some b)] w fun e w' => ∃ (g cap : Nat) (ss : List Int), e = .returned (.slice (some ⟨g, 0, none⟩) ss.length cap) ∧ ss.mergeSort leI = ks L ∧ w.heap.size ≤ g ∧ ss.length ≤ n ∧
      w'.ownsRow w.heap.size 3 1 (.slice (some ⟨g, 0, none⟩) ss.length cap) ss.length (ss.map (Value.int .i64)) ∧ Below w.heap.size w w' := by
  obtain ⟨i0, hi, hz0, hz1, hz2⟩ := info_parts info3
  obtain ⟨D, hown, hD⟩ := hs
  have hbl := hown.lt
  have hsz := hown.size_le
  have hmax : Maps.size D ≤ maxLen := by unfold maxLen; omega
  have HD := Aside0.mk hD
  clear hD
  go_enter Try.func57, Try.ntmps57
  go_wp2_with (first
    | (at_len; refine wpList_len_own _ rfl _ 50 rfl 3 78 Try.underlying50 _ b n D rfl hown ?_)
    | (at_make; refine wpList_make_own _ rfl _ _ 22 rfl w.heap.size 3 i0 (.int .i64 0) 1 Try.underlying22 hi hz0 hz1 _ _ _ (Maps.size D) rfl rfl rfl (by rw [hz2]; omega) hmax (Nat.le_refl _) ?_; intro w1 hrow1 hg1)
    | (at_range; refine wpList_range_own _ rfl _ 50 rfl 3 78 law3 Try.underlying50 _ b n D rfl (hown.kept hg1 (by simp)) ?_; intro w0 hrg0 hg0 hs0))
  try go_frame
  go_loopw [3] (fun v wr => ∃ (left : Lit → Bool) (cnt : Nat) (ss : List Int), wr.ranges Try.prog 3 (unitElem (H := Unit)) b w1.heap.size n D left cnt ∧ ss.length + cnt ≤ Maps.size D ∧
      wr.ownsRow w.heap.size 3 1 v ss.length (ss.map (Value.int .i64)) ∧ v ≠ .slice none 0 0 ∧ Taken L ss left ∧ Below w.heap.size w wr)
    (fun _ wr => wr.rangeLeft b w1.heap.size)
  case atStart =>
    exact ⟨_, _, [], hrg0, by simp, hrow1.kept hg0 (Or.inr (by simp [Value.ownBlock])), by simp, ⟨List.nodup_nil, come_start _ HD.out⟩,
      ((Below.refl _ _).grown hg1 (Nat.le_refl _) (fun j hj => by cases hj)).grown hg0 hg1.size (fun j hj => by cases hj)⟩
  case round =>
    obtain ⟨left, cnt, ss, hrg, hcs, hrow, hnn, hA, hnx⟩ := hrel
    go_wp2_with (first | (at_next; refine wpList_next_ranges _ rfl _ rfl 3 law3 (unitElem (H := Unit)) (Value.int .i64) (fun _ : Unit => Value.agg #[]) invK invU b w1.heap.size n _ _ _ rfl hrg ?_ ?_))
    · intro hc0 hl0
      rcases hrow.2 with ⟨hnil, _⟩ | ⟨g, cap, cur, rfl, hbase, hb, h1, h2, h3, h4⟩
      · exact absurd hnil hnn
      go_wp2
      go_ret
      exact ⟨g, cap, ss, rfl, ks_of hA.1 (fun x => by rw [hA.2 x]; simp [hl0]), hbase, by omega, hrow, hnx⟩
    · intro x kl yd yp w2 cnt2 hkey hlk hv hat hrg2 hlt hg2 hs2 hen
      obtain ⟨x', ex, rfl, hwx⟩ := Maps.keyOf_int_inv Try.underlying3 hkey
      injection ex with _ ex
      subst ex
      have hin := come_has HD.out hat
      have hrow2 := hrow.kept hg2 (Or.inr (row_ne_iter hrow hrg).symm)
      clear hs2
      go_wp2_with (first
        | (at_builtin; refine wpList_append_own _ rfl _ _ 22 rfl w.heap.size 3 i0 (.int .i64 0) 1 8 Try.underlying22 hi hz0 hz1 hz2 rfl (by decide) _ _ _ rfl (hrow2.alloc _) ⟨w2.heap.size, 0, none⟩ 1 1 [.int .i64 x] rfl rfl (cell_one_new _ _ _) (by simp [Value.oneCell']) (by unfold maxLen at *; omega) (by omega) (by have := hnx.size; have := hg2.size; simp; omega) ?_; intro v' w3 hown' hg3 hnil3; go_frame))
      have hrg3 := (hrg2.alloc (.cells #[.int .i64 x] 3)).kept hg3 (row_ne_low hrow2 hbl) (row_ne_iter hrow2 hrg2)
      go_roundw
      case rel =>
        refine ⟨_, cnt2, ss ++ [x], hrg3, by simp; omega, by simpa using hown', fun hv' => by have := (hnil3.1 hv').2; omega, taken_more hA hin hlk, ?_⟩
        exact ((hnx.grown hg2 hnx.size (fun j hj => by cases hj; exact hg1.size)).alloc (by have := hnx.size; have := hg2.size; omega) _).grown hg3 (by have := hnx.size; have := hg2.size; simp; omega) (fun j hj => (hrow2.lt j hj).1)
      case measure => rw [hrg3.left_eq, hrg.left_eq]; exact hlt

set_option maxRecDepth 100000 in
set_option maxHeartbeats 2000000 in
theorem unsorted_nil (w : World) :
    Calls Try.prog 57 #[.map none] w fun e w' => ∃ (g cap : Nat), e = .returned (.slice (some ⟨g, 0, none⟩) 0 cap) ∧ w.heap.size ≤ g ∧
      w'.ownsRow w.heap.size 3 1 (.slice (some ⟨g, 0, none⟩) 0 cap) 0 [] ∧ Below w.heap.size w w' := by
  obtain ⟨i0, hi, hz0, hz1, hz2⟩ := info_parts info3
  have hln := fun ty => Maps.len_nil (P := Try.prog) (w := w) Try.underlying50 ty
  go_enter Try.func57, Try.ntmps57
  go_wp2_with (first
    | (at_make; refine wpList_make_own _ rfl _ _ 22 rfl w.heap.size 3 i0 (.int .i64 0) 1 Try.underlying22 hi hz0 hz1 _ _ _ 0 rfl rfl rfl (by omega) (Nat.zero_le _) (Nat.le_refl _) ?_; intro w1 hrow1 hg1
       have hrg := run_range_nilMap (P := Try.prog) w1 50 3 78 Try.underlying50
       have hnx : ∀ ty, (Instr.next (.pointer (some ⟨w1.heap.size, 0, none⟩)) false ty).run Try.prog (w1.alloc (.mapIter none 0 #[] 0)) = _ := fun ty => run_next_nilMap _ ty 0 0 #[]))
  refine wp_loop_rounds 1 ?_
  rw [rounds_succ]
  go_wp2
  go_ret
  exact ⟨_, _, rfl, Nat.le_refl _, hrow1.alloc _, ((Below.refl _ _).grown hg1 (Nat.le_refl _) (fun j hj => by cases hj)).alloc hg1.size _⟩
end Go.Proofs.Ytmlhgafinkcfcaa.SetW
