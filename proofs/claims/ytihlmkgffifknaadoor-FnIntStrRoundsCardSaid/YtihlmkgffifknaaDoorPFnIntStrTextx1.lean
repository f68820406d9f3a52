/- Functions of the program as plain Lean functions, and that the machine's calls do what these say: written for this claim by wip/myprint.py over the kit's print.py. -/
import Derived.Test.YtihlmkgffifknaaDoorPFnIntStrTextx0
namespace Go.Proofs.YtihlmkgffifknaaDoor.PFnIntStrText
open Go.RowKit Go.Proofs.YtihlmkgffifknaaDoorW.PrintWords Go.Proofs.YtihlmkgffifknaaDoorW.PrintLast Go.Proofs.YtihlmkgffifknaaDoorW.PrintMore
attribute [local go_sem] max2_int min2_int max_two min_two max_three min_three max_four min_four   -- for this text's walks alone
set_option linter.unusedVariables false
set_option linter.unusedSimpArgs false

-- NOT PRINTED: function 24 (intstr_FromInt32)

-- NOT PRINTED: function 9 (impl_IntStrFrom)

/-- A state of type 51 at block g of W; what its slices lead to came in by w0. -/
def IsS51 (w0 W : World) (g : Nat) (f0 : Int) (f1 : Int) (f2 : ByteArray) : Prop := W.heap[g]? = some (.cells #[.int .i64 f0, .int .i32 f1, .string f2] 51 (0, 0)) ∧ w0.heap.size ≤ g
theorem IsS51.grown {w0 W : World} {g : Nat} {f0 : Int} {f1 : Int} {f2 : ByteArray} {W1 : World} {row : Option Nat} (h : IsS51 w0 W g f0 f1 f2) (hw : W.grownBy W1 row) (hne : some g ≠ row) : IsS51 w0 W1 g f0 f1 f2 := by
  obtain ⟨hb, hg⟩ := h
  exact ⟨blk_grown hb hw hne, hg⟩
theorem IsS51.own_neN {w0 W : World} {g : Nat} {f0 : Int} {f1 : Int} {f2 : ByteArray} {α : Type} {d : Kd α} {e : Nat} {base : Nat} {ok : Nat → Prop} {v : Value} {xs : List α} (h : IsS51 w0 W g f0 f1 f2) (ho : Kd.N d e W base ok v xs) (ht : e ≠ 51) : some g ≠ v.ownBlock := by
  obtain ⟨hb, hg⟩ := h
  exact Kd.N_ne ho hb ht
theorem IsS51.fresh {w0 W : World} {g : Nat} {f0 : Int} {f1 : Int} {f2 : ByteArray} (h : IsS51 w0 W g f0 f1 f2) : ∀ k, W.heap.size ≤ k → k ≠ g := by
  obtain ⟨hb, hg⟩ := h
  exact Kd.freshB hb
theorem IsS51.kept {w0 W : World} {g : Nat} {f0 : Int} {f1 : Int} {f2 : ByteArray} {W1 : World} {S : Nat → Prop} (h : IsS51 w0 W g f0 f1 f2) (hk : Kept W W1 S) (hne : ¬ S g) : IsS51 w0 W1 g f0 f1 f2 := by
  obtain ⟨hb, hg⟩ := h
  exact ⟨blk_kept hb hk hne, hg⟩
theorem IsS51.below {w0 W : World} {g : Nat} {f0 : Int} {f1 : Int} {f2 : ByteArray} {W1 : World} (h : IsS51 w0 W g f0 f1 f2) (hw : Below W.heap.size W W1) : IsS51 w0 W1 g f0 f1 f2 := h.grown (grown_of_below hw none) (by simp)
theorem IsS51.alloc {w0 W : World} {g : Nat} {f0 : Int} {f1 : Int} {f2 : ByteArray} (h : IsS51 w0 W g f0 f1 f2) (o : Obj) : IsS51 w0 (W.alloc o) g f0 f1 f2 := h.below (below_alloc (Below.refl _ _) o)
theorem IsS51.drewN {w0 W : World} {g : Nat} {f0 : Int} {f1 : Int} {f2 : ByteArray} (h : IsS51 w0 W g f0 f1 f2) (m : Nat) : IsS51 w0 (W.drewN m) g f0 f1 f2 := h
theorem IsS51.drew {w0 W : World} {g : Nat} {f0 : Int} {f1 : Int} {f2 : ByteArray} (h : IsS51 w0 W g f0 f1 f2) : IsS51 w0 W.drew g f0 f1 f2 := h
theorem IsS51.at_ {w0 W : World} {g : Nat} {f0 : Int} {f1 : Int} {f2 : ByteArray} {w' : World} {m : Nat} (hq : W.drewN m = w') (h : IsS51 w0 W g f0 f1 f2) : IsS51 w0 w' g f0 f1 f2 := by subst hq; exact IsS51.drewN h m
theorem IsS51.apart {w0 W : World} {g : Nat} {f0 : Int} {f1 : Int} {f2 : ByteArray} {α : Type} {d : Kd α} {e : Nat} {base : Nat} {ok : Nat → Prop} {v : Value} {xs : List α} (h : IsS51 w0 W g f0 f1 f2) (ho : d.R e W base ok v xs) (ht : ∀ q, q ∈ e :: d.E → q ≠ 51) : d.R e W base (fun k => ok k ∧ k ≠ g) v xs := by
  obtain ⟨hb, hg⟩ := h
  exact Kd.R_types ho hb ht
theorem IsS51.own_ne {w0 W : World} {g : Nat} {f0 : Int} {f1 : Int} {f2 : ByteArray} {α : Type} {d : Kd α} {e : Nat} {base : Nat} {ok : Nat → Prop} {v : Value} {xs : List α} (h : IsS51 w0 W g f0 f1 f2) (ho : d.R e W base ok v xs) (ht : e ≠ 51) : some g ≠ v.ownBlock := by
  obtain ⟨hb, hg⟩ := h
  exact Kd.R_ne ho hb ht
theorem IsS51.apartQ {w0 W : World} {g : Nat} {f0 : Int} {f1 : Int} {f2 : ByteArray} {α : Type} {d : Kd α} {e : Nat} {base : Nat} {ok : Nat → Prop} {v : Value} {xs : List α} (h : IsS51 w0 W g f0 f1 f2) (ho : d.Q e W base ok v xs) (ht : ∀ q, q ∈ e :: d.E → q ≠ 51) : d.Q e W base (fun k => ok k ∧ k ≠ g) v xs := by
  obtain ⟨hb, hg⟩ := h
  exact Kd.Q_types ho hb ht
theorem IsS51.own_neQ {w0 W : World} {g : Nat} {f0 : Int} {f1 : Int} {f2 : ByteArray} {α : Type} {d : Kd α} {e : Nat} {base : Nat} {ok : Nat → Prop} {v : Value} {xs : List α} (h : IsS51 w0 W g f0 f1 f2) (ho : d.Q e W base ok v xs) (ht : e ≠ 51) : some g ≠ v.ownBlock := by
  obtain ⟨hb, hg⟩ := h
  exact Kd.Q_ne ho hb ht
theorem IsS51.apartS {w0 W : World} {g : Nat} {f0 : Int} {f1 : Int} {f2 : ByteArray} {α : Type} {d : Kd α} {e : Nat} {base : Nat} {ok : Nat → Prop} {v : Value} {xs : List α} (h : IsS51 w0 W g f0 f1 f2) (ho : d.S e W base ok v xs) (ht : ∀ q, q ∈ e :: d.E → q ≠ 51) : d.S e W base (fun k => ok k ∧ k ≠ g) v xs := by
  obtain ⟨hb, hg⟩ := h
  exact Kd.S_types ho hb ht
theorem IsS51.own_neS {w0 W : World} {g : Nat} {f0 : Int} {f1 : Int} {f2 : ByteArray} {α : Type} {d : Kd α} {e : Nat} {base : Nat} {ok : Nat → Prop} {v : Value} {xs : List α} (h : IsS51 w0 W g f0 f1 f2) (ho : d.S e W base ok v xs) (ht : e ≠ 51) : some g ≠ v.ownBlock := by
  obtain ⟨hb, hg⟩ := h
  exact Kd.S_ne ho hb ht
theorem IsS51.lt {w0 W : World} {g : Nat} {f0 : Int} {f1 : Int} {f2 : ByteArray} (h : IsS51 w0 W g f0 f1 f2) : g < W.heap.size := by
  obtain ⟨hb, hg⟩ := h
  exact blk_lt hb
theorem IsS51.ge {w0 W : World} {g : Nat} {f0 : Int} {f1 : Int} {f2 : ByteArray} (h : IsS51 w0 W g f0 f1 f2) : w0.heap.size ≤ g := by
  obtain ⟨hb, hg⟩ := h
  exact hg
theorem IsS51.ne_blk {w0 W : World} {g : Nat} {f0 : Int} {f1 : Int} {f2 : ByteArray} {a : Nat} {cs : Array Value} {t : TypeId} {fr : Nat × Nat} (h : IsS51 w0 W g f0 f1 f2) (hb2 : W.heap[a]? = some (.cells cs t fr)) (ht : t ≠ 51) : g ≠ a := by
  obtain ⟨hb, hg⟩ := h
  rintro rfl
  rw [hb] at hb2
  injection hb2 with hb2
  injection hb2 with _ ht2
  exact ht ht2.symm
theorem IsS51.far {w0 W : World} {g : Nat} {f0 : Int} {f1 : Int} {f2 : ByteArray} {p : Addr} (h : IsS51 w0 W g f0 f1 f2) (hne : g ≠ p.block) (u : Value) : IsS51 w0 (W.setCell p u) g f0 f1 f2 := by
  obtain ⟨hb, hg⟩ := h
  exact ⟨blk_far hb hne u, hg⟩
theorem cellS51_0 {W : World} {g : Nat} {f0 : Int} {f1 : Int} {f2 : ByteArray} (h : W.heap[g]? = some (.cells #[.int .i64 f0, .int .i32 f1, .string f2] 51 (0, 0))) : W.cell? ⟨g, 0, none⟩ = some (.int .i64 f0) := (blk_cell h 0).trans rfl
theorem IsS51.set_0 {w0 W : World} {g : Nat} {f0 : Int} {f1 : Int} {f2 : ByteArray} (h : IsS51 w0 W g f0 f1 f2) (x : Int) : IsS51 w0 (W.setCell ⟨g, 0, none⟩ (.int .i64 x)) g x f1 f2 := by
  obtain ⟨hb, hg⟩ := h
  exact ⟨by simpa using blk_set hb 0 (.int .i64 x), hg⟩
theorem cellS51_1 {W : World} {g : Nat} {f0 : Int} {f1 : Int} {f2 : ByteArray} (h : W.heap[g]? = some (.cells #[.int .i64 f0, .int .i32 f1, .string f2] 51 (0, 0))) : W.cell? ⟨g, 1, none⟩ = some (.int .i32 f1) := (blk_cell h 1).trans rfl
theorem IsS51.set_1 {w0 W : World} {g : Nat} {f0 : Int} {f1 : Int} {f2 : ByteArray} (h : IsS51 w0 W g f0 f1 f2) (x : Int) : IsS51 w0 (W.setCell ⟨g, 1, none⟩ (.int .i32 x)) g f0 x f2 := by
  obtain ⟨hb, hg⟩ := h
  exact ⟨by simpa using blk_set hb 1 (.int .i32 x), hg⟩
theorem cellS51_2 {W : World} {g : Nat} {f0 : Int} {f1 : Int} {f2 : ByteArray} (h : W.heap[g]? = some (.cells #[.int .i64 f0, .int .i32 f1, .string f2] 51 (0, 0))) : W.cell? ⟨g, 2, none⟩ = some (.string f2) := (blk_cell h 2).trans rfl
theorem IsS51.set_2 {w0 W : World} {g : Nat} {f0 : Int} {f1 : Int} {f2 : ByteArray} (h : IsS51 w0 W g f0 f1 f2) (x : ByteArray) : IsS51 w0 (W.setCell ⟨g, 2, none⟩ (.string x)) g f0 f1 x := by
  obtain ⟨hb, hg⟩ := h
  exact ⟨by simpa using blk_set hb 2 (.string x), hg⟩
theorem IsS51.new (w0 W : World) (f0 : Int) (f1 : Int) (f2 : ByteArray) (hB : Below w0.heap.size w0 W) : IsS51 w0 (W.alloc (.cells #[.int .i64 f0, .int .i32 f1, .string f2] 51)) W.heap.size f0 f1 f2 := ⟨by simpa using heap_alloc_new W _, hB.size⟩

/-! ### impl_intStr: function 25 -/
def impl_intStr.f (a0_0 : Int) (a0_1 : Int) (a0_2 : ByteArray) : Option (Int × Int × ByteArray) := some (a0_0, a0_1, a0_2)
set_option maxHeartbeats 8000000 in
set_option maxRecDepth 100000 in
theorem impl_intStr.calls (a0_0 : Int) (a0_1 : Int) (a0_2 : ByteArray) (r1 : Int) (r2 : Int) (r3 : ByteArray) (w0 w : World) (hB : Below w0.heap.size w0 w) (h : impl_intStr.f a0_0 a0_1 a0_2 = some (r1, r2, r3)) :
    Calls Tryd.prog 25 #[.agg #[.int .i64 a0_0, .int .i32 a0_1, .string a0_2]] w fun e w' => ∃ g_ : Nat, e = .returned (.pointer (some ⟨g_, 0, none⟩)) ∧ IsS51 w0 w' g_ r1 r2 r3 ∧ Below w0.heap.size w0 w' ∧ Below w.heap.size w w' := by
  have hu24 := Tryd.underlying24
  have hu51 := Tryd.underlying51
  have HBW := Aside0.mk (Below.refl w.heap.size w)
  have HW0 := Aside0.mk hB.size
  have HB := Aside0.mk hB
  clear hB
  have H : (some (a0_0, a0_1, a0_2)) = some (r1, r2, r3) := h
  clear h
  simp only [Option.some.injEq, Prod.mk.injEq] at H
  obtain ⟨rfl, rfl, rfl⟩ := H
  go_enter Tryd.func25, Tryd.ntmps25
  go_wp2_with (first | ((with_reducible refine gate_dst (N := 1) rfl ?_); refine box_event ?hg (N := 1) ?hd (cs := #[.int .i64 a0_0, .int .i32 a0_1, .string a0_2]) (t := 24) ?hr ?_; (case hd => rfl); (case hg => rfl); (case hr => first | (go_simp; done) | (go_simp; rfl)); intro gb102 hg w2 hbox hb; have n0_ := Aside0.mk (below_step HBW.out hb); have n1_ := Aside0.mk (below_step (by repeat (first | (with_reducible first | exact HB.out | apply below_alloc | apply pw_below_drewN | apply below_drew1) | exact HB.out)) hb); have n2_ := Aside0.mk (hbox); have n3_ := Aside0.mk ((by rw [hg]; exact (below_size (by repeat (first | (with_reducible first | exact HBW.out | apply below_alloc | apply pw_below_drewN | apply below_drew1) | exact HBW.out))) : w.heap.size ≤ gb102)); have n4_ := Aside0.mk ((Nat.le_trans HW0.out (by rw [hg]; exact (below_size (by repeat (first | (with_reducible first | exact HBW.out | apply below_alloc | apply pw_below_drewN | apply below_drew1) | exact HBW.out))) : w.heap.size ≤ gb102) : w0.heap.size ≤ gb102)); clear HBW; clear HB; have HBW := n0_; have HB := n1_; have BK102 := n2_; have GW102 := n3_; have GE102 := n4_; clear n0_ n1_ n2_ n3_ n4_; clear hb hbox hg; have hcz3_0 : w2.cell? ⟨gb102, 0, none⟩ = some (.int .i64 a0_0) := (blk_cell BK102.out 0).trans rfl; have hcz3_1 : w2.cell? ⟨gb102, 1, none⟩ = some (.int .i32 a0_1) := (blk_cell BK102.out 1).trans rfl; have hcz3_2 : w2.cell? ⟨gb102, 2, none⟩ = some (.string a0_2) := (blk_cell BK102.out 2).trans rfl; have hfz3_0 := blk_frozen BK102.out 0; have hfz3_1 := blk_frozen BK102.out 1; have hfz3_2 := blk_frozen BK102.out 2) | ((with_reducible refine gate_dst (N := 10) rfl ?_); refine box_event ?hg (N := 10) ?hd (cs := #[.int .i64 a0_0, .int .i32 a0_1, .string a0_2]) (t := 51) ?hr ?_; (case hd => rfl); (case hg => rfl); (case hr => first | (go_simp; done) | (go_simp; rfl)); intro gb103 hg w4 hbox hb; have n0_ := Aside0.mk (blk_below (g := gb102) (o := .cells #[.int .i64 a0_0, .int .i32 a0_1, .string a0_2] 24 (0, 0)) (by (with_reducible repeat (first | refine blk_drewN ?_ _ | refine blk_drew ?_ | refine blk_alloc ?_ _)); exact BK102.out) hb); have n1_ := Aside0.mk (below_step HBW.out hb); have n2_ := Aside0.mk (below_step (by repeat (first | (with_reducible first | exact HB.out | apply below_alloc | apply pw_below_drewN | apply below_drew1 | refine below_set ?_ GE102.out) | exact HB.out)) hb); have n3_ := Aside0.mk (hbox); have n4_ := Aside0.mk ((by rw [hg]; exact (below_size (by repeat (first | (with_reducible first | exact HBW.out | apply below_alloc | apply pw_below_drewN | apply below_drew1 | refine below_set ?_ GW102.out) | exact HBW.out))) : w.heap.size ≤ gb103)); have n5_ := Aside0.mk ((Nat.le_trans HW0.out (by rw [hg]; exact (below_size (by repeat (first | (with_reducible first | exact HBW.out | apply below_alloc | apply pw_below_drewN | apply below_drew1 | refine below_set ?_ GW102.out) | exact HBW.out))) : w.heap.size ≤ gb103) : w0.heap.size ≤ gb103)); have n6_ := Aside0.mk ((by rw [hg]; exact Nat.ne_of_lt (blk_lt (g := gb102) (o := .cells #[.int .i64 a0_0, .int .i32 a0_1, .string a0_2] 24 (0, 0)) (by (with_reducible repeat (first | refine blk_drewN ?_ _ | refine blk_drew ?_ | refine blk_alloc ?_ _)); exact BK102.out)) : gb102 ≠ gb103)); have n7_ := Aside0.mk ((by rw [hg]; exact Nat.ne_of_gt (blk_lt (g := gb102) (o := .cells #[.int .i64 a0_0, .int .i32 a0_1, .string a0_2] 24 (0, 0)) (by (with_reducible repeat (first | refine blk_drewN ?_ _ | refine blk_drew ?_ | refine blk_alloc ?_ _)); exact BK102.out)) : gb103 ≠ gb102)); clear BK102; clear HBW; clear HB; have BK102 := n0_; have HBW := n1_; have HB := n2_; have BK103 := n3_; have GW103 := n4_; have GE103 := n5_; have NB102_103 := n6_; have NB103_102 := n7_; clear n0_ n1_ n2_ n3_ n4_ n5_ n6_ n7_; clear hb hbox hg))
  go_ret
  exact ⟨_, rfl, (show IsS51 w0 _ gb103 a0_0 a0_1 a0_2 from ⟨by (with_reducible repeat (first | refine blk_drewN ?_ _ | refine blk_drew ?_ | refine blk_alloc ?_ _)); exact BK103.out, GE103.out⟩), by repeat (first | (with_reducible first | exact HB.out | apply below_alloc | apply pw_below_drewN | apply below_drew1 | refine below_set ?_ GE102.out | refine below_set ?_ GE103.out) | exact HB.out), by repeat (first | (with_reducible first | exact HBW.out | apply below_alloc | apply pw_below_drewN | apply below_drew1 | refine below_set ?_ GW102.out | refine below_set ?_ GW103.out) | exact HBW.out)⟩

-- NOT PRINTED: function 60 (strconv_small)

-- NOT PRINTED: function 70 (strconv_log10Pow2)

-- NOT PRINTED: function 71 (bits_Len64)

-- NOT PRINTED: function 72 (strconv_bool2_int)

-- NOT PRINTED: function 61 (strconv_numDigits)

-- NOT PRINTED: function 62 (strconv_formatBase10)

-- NOT PRINTED: function 73 (strconv_isPowerOfTwo)

-- NOT PRINTED: function 79 (bits_TrailingZeros32)

-- NOT PRINTED: function 80 (bits_TrailingZeros64)

-- NOT PRINTED: function 74 (bits_TrailingZeros)

-- NOT PRINTED: function 63 (strconv_formatBits)

-- NOT PRINTED: function 48 (strconv_FormatInt)

-- NOT PRINTED: function 38 (strconv_Itoa_38)

-- NOT PRINTED: function 31 (strconv_Itoa_31)

-- NOT PRINTED: function 66 (stringslite_Clone)

-- NOT PRINTED: function 51 (strconv_syntaxError)

-- NOT PRINTED: function 52 (strconv_rangeError)

/-! ### errors_New: function 29 -/
set_option maxHeartbeats 1000000 in
theorem errors_New.calls (s : ByteArray) (w : World) :
    Calls Tryd.prog 29 #[.string s] w fun e w' => (∃ x, e = .returned (.iface 72 x)) ∧ Below w.heap.size w w' := by
  have hu1 := Tryd.underlying74
  go_enter Tryd.func29, Tryd.ntmps29
  go_wp2_with fail
  go_ret
  exact ⟨⟨_, rfl⟩, by repeat (first | (with_reducible exact Below.refl _ _) | apply below_alloc | apply pw_below_drewN | apply below_drew1)⟩
-- NOT PRINTED: function 53 (strconv_baseError)

-- NOT PRINTED: function 54 (strconv_bitSizeError)

-- NOT PRINTED: function 41 (strconv_toError)

-- NOT PRINTED: function 64 (strconv_lower)

-- NOT PRINTED: function 65 (strconv_underscoreOK)

-- NOT PRINTED: function 50 (strconv_ParseUint)

-- NOT PRINTED: function 40 (strconv_ParseInt_40)

-- NOT PRINTED: function 49 (strconv_Atoi_49)

-- NOT PRINTED: function 39 (strconv_Atoi_39)

-- NOT PRINTED: function 32 (intstr_IntOrString_IntValue)

-- NOT PRINTED: function 26 (intstr_IntOrString_String)

-- NOT PRINTED: function 10 (impl_IntStrText)

/-! ### spec_NumDigits: function 11 -/
def spec_NumDigits.l0 : Nat → Int → List Int → Bool → Option (ByteArray)
  | 0, _, _, _ => none
  | k + 1, x0, x3, x4 => if x0 = 0 then (if x4 = true then (if 1 + (strOfNums x3).size ≤ 9223372036854775807 then (some ((⟨#[45]⟩ : ByteArray) ++ (strOfNums x3))) else (none)) else (some (strOfNums x3))) else (if (Int.tmod x0 10) < 0 then ((some (([(wrap64 (48 + (wrap64 (-(Int.tmod x0 10))))) % 256] : List Int) : List Int)).bind fun y109 => (if y109.length + x3.length < 140737488355328 then (spec_NumDigits.l0 k (wrap64 (Int.tdiv x0 10)) (y109 ++ x3) x4) else (none))) else ((some (([(wrap64 (48 + (Int.tmod x0 10))) % 256] : List Int) : List Int)).bind fun y115 => (if y115.length + x3.length < 140737488355328 then (spec_NumDigits.l0 k (wrap64 (Int.tdiv x0 10)) (y115 ++ x3) x4) else (none))))
def spec_NumDigits.f (k : Nat) (a0 : Int) : Option (ByteArray) := if a0 = 0 then (some (⟨#[48]⟩ : ByteArray)) else (spec_NumDigits.l0 k a0 ([] : List Int) (decide (a0 < 0)))
theorem spec_NumDigits.mono_l : ∀ k, (∀ y0 y1 y2, LeO (spec_NumDigits.l0 k y0 y1 y2) (spec_NumDigits.l0 (k + 1) y0 y1 y2))
  | 0 => fun _ _ _ r h => by simp [spec_NumDigits.l0] at h
  | k + 1 => by
    have ih0 := spec_NumDigits.mono_l k
    · intro y0 y1 y2
      unfold spec_NumDigits.l0
      repeat' first
      | (with_reducible exact ih0 _ _ _)
      | (with_reducible exact LeO.refl _)
      | (with_reducible exact LeO.none _)
      | (with_reducible refine LeO.ite ?_ ?_)
      | (with_reducible refine LeO.bind ?_ (fun _ => ?_))
      | exact ih0 _ _ _
      | exact LeO.none _
      | refine LeO.ite ?_ ?_
      | refine LeO.bind ?_ (fun _ => ?_)
theorem spec_NumDigits.mono : ∀ a0 k, LeO (spec_NumDigits.f k a0) (spec_NumDigits.f (k + 1) a0) := by
  intro a0 k
  have ih0 := spec_NumDigits.mono_l k
  unfold spec_NumDigits.f
  repeat' first
      | (with_reducible exact ih0 _ _ _)
      | (with_reducible exact LeO.refl _)
      | (with_reducible exact LeO.none _)
      | (with_reducible refine LeO.ite ?_ ?_)
      | (with_reducible refine LeO.bind ?_ (fun _ => ?_))
      | exact ih0 _ _ _
      | exact LeO.none _
      | refine LeO.ite ?_ ?_
      | refine LeO.bind ?_ (fun _ => ?_)
set_option maxHeartbeats 8000000 in
set_option maxRecDepth 100000 in
theorem spec_NumDigits.calls (k : Nat) (a0 : Int) (r : ByteArray) (w : World) (h : spec_NumDigits.f k a0 = some r) :
    Calls Tryd.prog 11 #[.int .i64 a0] w fun e w' => e = .returned (.string r) ∧ Below w.heap.size w w' := by
  have HB := Aside0.mk (Below.refl w.heap.size w)
  have H : (if a0 = 0 then (some (⟨#[48]⟩ : ByteArray)) else (spec_NumDigits.l0 k a0 ([] : List Int) (decide (a0 < 0)))) = some r := h
  clear h
  by_cases c2 : a0 = 0
  · rw [if_pos c2] at H
    have c2b0 : (a0 == 0) = true := beq_iff_eq.mpr c2
    have c2b1 : (a0 != 0) = false := bne_eq_false_iff_eq.mpr c2
    clear c2
    obtain rfl := Option.some.inj H
    go_enter Tryd.func11, Tryd.ntmps11
    go_wp2
    go_ret
    exact ⟨by first | rfl | (simp [errW_none, errW_some] <;> rfl) | (simp [*, errW_none, errW_some] <;> rfl) | (exfalso; contradiction), by repeat (first | (with_reducible first | exact HB.out | apply below_alloc | apply pw_below_drewN | apply below_drew1) | exact HB.out)⟩
  · rw [if_neg c2] at H
    have c2b0 : (a0 == 0) = false := beq_eq_false_iff_ne.mpr c2
    have c2b1 : (a0 != 0) = true := bne_iff_ne.mpr c2
    have H' := Aside0.mk H
    clear H
    go_enter Tryd.func11, Tryd.ntmps11
    go_wp2
    go_loopg [0, 3] k (fun kq v0 v3 w' => ∃ (x0_1 : Int) (x3_1 : List Int), v0 = .int .i64 x0_1 ∧ Aside0 (spec_NumDigits.l0 kq x0_1 x3_1 (decide (a0 < 0)) = some r) ∧ Aside0 (kq ≤ k) ∧ Aside0 (Kd.R (Kd.int .u8) 5 w' w.heap.size (fun _ => True) v3 x3_1) ∧ Aside0 (Below w.heap.size w w'))
    case atStart => exact ⟨(a0), (([] : List Int)), (by first | rfl | (simp; done) | (simp [*]; done)), H', ⟨Nat.le_refl _⟩, ⟨by first | exact Kd.R_nil _ _ _ _ _ | exact Kd.N_nil _ _ _ _ _ | exact Kd.V_nil _ _ _ _ _ | exact Kd.Q_nil _ _ _ _ _ | exact Kd.S_nil _ _ _ _ _⟩, ⟨by repeat (first | (with_reducible first | exact HB.out | apply below_alloc | apply pw_below_drewN | apply below_drew1) | exact HB.out)⟩⟩
    case round =>
      clear H'
      try clear c1
      try clear c2
      try clear c2b0
      try clear c2b1
      try clear p2
      obtain ⟨x0_1, x3_1, rfl, HA, HK1, HO_3, HB⟩ := hrel
      cases gk with
      | zero => exact absurd HA.out (by simp [spec_NumDigits.l0])
      | succ k1 =>
        have H := HA.out
        clear HA
        simp only [spec_NumDigits.l0] at H
        by_cases c3 : x0_1 = 0
        · rw [if_pos c3] at H
          have c3b0 : (x0_1 == 0) = true := beq_iff_eq.mpr c3
          have c3b1 : (x0_1 != 0) = false := bne_eq_false_iff_eq.mpr c3
          clear c3
          by_cases c4 : (decide (a0 < 0)) = true
          · rw [if_pos c4] at H
            have c4b0 : (decide (a0 < 0)) = true := c4
            try have c4b9 : a0 < 0 := of_decide_eq_true c4b0
            clear c4
            by_cases c5 : 1 + (strOfNums x3_1).size ≤ 9223372036854775807
            · rw [if_pos c5] at H
              have c5b0 := eq_true c5
              have c5b1 : decide (1 + (strOfNums x3_1).size ≤ 9223372036854775807) = true := decide_eq_true c5
              try have c5b2 : (9223372036854775807 < 1 + (strOfNums x3_1).size) = False := eq_false (Nat.not_lt.2 c5)
              obtain rfl := Option.some.inj H
              have hcv6 := own_string (P := Tryd.prog) Tryd.underlying22 Tryd.underlying5 Tryd.underlying9 (Kd.own_of_R HO_3.out)
              go_wp2
              any_goals (try (exfalso; omega))
              go_ret
              exact ⟨by first | rfl | (simp [errW_none, errW_some] <;> rfl) | (simp [*, errW_none, errW_some] <;> rfl) | (exfalso; contradiction), by repeat (first | (with_reducible first | exact HB.out | apply below_alloc | apply pw_below_drewN | apply below_drew1) | exact HB.out)⟩
            · rw [if_neg c5] at H
              exact absurd H (by simp)
          · rw [if_neg c4] at H
            have c4b0 : (decide (a0 < 0)) = false := by simpa using c4
            try have c4b9 : ¬ (a0 < 0) := of_decide_eq_false c4b0
            clear c4
            obtain rfl := Option.some.inj H
            have hcv7 := own_string (P := Tryd.prog) Tryd.underlying22 Tryd.underlying5 Tryd.underlying9 (Kd.own_of_R HO_3.out)
            go_wp2
            any_goals (try (exfalso; omega))
            go_ret
            exact ⟨by first | rfl | (simp [errW_none, errW_some] <;> rfl) | (simp [*, errW_none, errW_some] <;> rfl) | (exfalso; contradiction), by repeat (first | (with_reducible first | exact HB.out | apply below_alloc | apply pw_below_drewN | apply below_drew1) | exact HB.out)⟩
        · rw [if_neg c3] at H
          have c3b0 : (x0_1 == 0) = false := beq_eq_false_iff_ne.mpr c3
          have c3b1 : (x0_1 != 0) = true := bne_iff_ne.mpr c3
          by_cases c8 : (Int.tmod x0_1 10) < 0
          · rw [if_pos c8] at H
            have c8b0 : decide ((Int.tmod x0_1 10) < 0) = true := decide_eq_true c8
            clear c8
            obtain ⟨y109, hy109⟩ : ∃ y_ : List Int, y_ = (([(wrap64 (48 + (wrap64 (-(Int.tmod x0_1 10))))) % 256] : List Int)) := ⟨_, rfl⟩
            replace H : (if y109.length + x3_1.length < 140737488355328 then (spec_NumDigits.l0 k1 (wrap64 (Int.tdiv x0_1 10)) (y109 ++ x3_1) (decide (a0 < 0))) else (none)) = some r := by first | (rw [hy109]; with_reducible exact H) | (have H2_ := (Option.bind_some _ _).symm.trans H; rw [hy109]; with_reducible exact H2_) | (have H2_ := (Option.bind_some _ _).symm.trans H; with_reducible exact H2_) | with_reducible exact H | (rw [hy109]; exact H) | exact H
            have Ny109 := Aside0.mk hy109
            clear hy109
            by_cases c9 : y109.length + x3_1.length < 140737488355328
            · rw [if_pos c9] at H
              have LMc9 := Aside0.mk c9
              clear c9
              obtain ⟨y112, hy112⟩ : ∃ y_ : List Int, y_ = (y109 ++ x3_1) := ⟨_, rfl⟩
              replace H : (spec_NumDigits.l0 k1 (wrap64 (Int.tdiv x0_1 10)) y112 (decide (a0 < 0))) = some r := by first | (rw [hy112]; with_reducible exact H) | (have H2_ := (Option.bind_some _ _).symm.trans H; rw [hy112]; with_reducible exact H2_) | (have H2_ := (Option.bind_some _ _).symm.trans H; with_reducible exact H2_) | with_reducible exact H | (rw [hy112]; exact H) | exact H
              have Ny112 := Aside0.mk hy112
              clear hy112
              have H' := Aside0.mk H
              clear H
              go_wp2_with (first | ((with_reducible refine gate_dst (N := 21) rfl ?_); refine Kd.R_lit (Kd.int .u8) _ 5 ?hg (N := 21) ?hd (xs := ([(wrap64 (48 + (wrap64 (-(Int.tmod x0_1 10))))) % 256] : List Int)) (inner := [.int .u8 ((wrap64 (48 + (wrap64 (-(Int.tmod x0_1 10))))) % 256)]) (ok := fun _ => True) (okp := fun _ => True) ?hr ?hp (fun _ hk => hk) trivial (Below.refl _ _) (Nat.le_refl _) (by simp) ?_; (case hd => rfl); (case hg => rfl); (case hr => first | (go_simp; done) | (go_simp; rfl)); (case hp => exact (Reps.one (show Kd.M (Kd.int .u8) _ _ _ ((wrap64 (48 + (wrap64 (-(Int.tmod x0_1 10))))) % 256) [.int .u8 ((wrap64 (48 + (wrap64 (-(Int.tmod x0_1 10))))) % 256)] from rfl) (Reps.none _ _))); intro v110 w10 ho11 hb hg_ hnew_; clear hg_ hnew_; (first | rw [← Ny109.out] at ho11 | (simp only [Int.reduceToNat] at ho11; rw [← Ny109.out] at ho11)); have n0_ := Aside0.mk (Kd.R_elder' (by (with_reducible repeat (first | apply Kd.R_alloc | apply Kd.R_drewN | apply Kd.R_drew)); exact HO_3.out) (Kd.R_base ho11) hb); have n1_ := Aside0.mk (Kd.R_lower (Kd.R_new' ho11 (Kd.R_lt (by (with_reducible repeat (first | apply Kd.R_alloc | apply Kd.R_drewN | apply Kd.R_drew)); exact HO_3.out))) (below_size (by repeat (first | (with_reducible first | exact HB.out | apply below_alloc | apply pw_below_drewN | apply below_drew1) | exact HB.out)))); have n2_ := Aside0.mk (below_step (by repeat (first | (with_reducible first | exact HB.out | apply below_alloc | apply pw_below_drewN | apply below_drew1) | exact HB.out)) hb); clear HO_3; clear HB; have HO_3 := n0_; have HO111 := n1_; have HB := n2_; clear n0_ n1_ n2_; clear hb ho11; obtain ⟨Ao13, co13, eo13⟩ := Kd.R_slice HO_3.out; subst eo13) | ((with_reducible refine gate_builtin (b := .append) (xs := #[.tmp 21, .tmp 22]) rfl ?_); at_builtin; refine Kd.R_append_rows (Kd.int .u8) (w0 := w) w.heap.size rfl (.tmp 21) (.tmp 22) 22 5 (.int .u8 0) 1 rfl Tryd.underlying22 info5 rfl (by decide) (by omega) v110 y109 x3_1 _ _ _ (fun k_ => some k_ ≠ (.slice Ao13 x3_1.length co13 : Value).ownBlock) (fun _ => False) rfl rfl ?aO ?aR (fun _ _ h => h) (fun _ h => h.elim) ?aF ?aB ?aS ?aL ?_; (case aR => repeat (first | exact (Kd.R_reads' HO_3.out).2.2 | (with_reducible refine Kd.C_alloc ?_ _) | (with_reducible refine Kd.C_drewN ?_ _) | (with_reducible refine Kd.C_drew ?_))); (case aB => exact (by repeat (first | (with_reducible first | exact HB.out | apply below_alloc | apply pw_below_drewN | apply below_drew1) | exact HB.out))); (case aF => exact (fun k_ hk => Kd.fresh' (Kd.R_lt (by (with_reducible repeat (first | apply Kd.R_alloc | apply Kd.R_drewN | apply Kd.R_drew)); exact HO_3.out)) k_ hk)); (case aO => exact (by (with_reducible repeat (first | apply Kd.R_alloc | apply Kd.R_drewN | apply Kd.R_drew)); exact Kd.R_mono HO111.out (fun _ hk => hk.2))); (case aS => exact (below_size (by repeat (first | (with_reducible first | exact HB.out | apply below_alloc | apply pw_below_drewN | apply below_drew1) | exact HB.out)))); (case aL => have := LMc9.out; omega); intro v113 w12 ho hb hg hat; rw [← Ny112.out] at ho; have n0_ := Aside0.mk (Kd.R_after (ok := (fun _ => True)) (by (with_reducible repeat (first | apply Kd.R_alloc | apply Kd.R_drewN | apply Kd.R_drew)); exact HO_3.out) hg hat); have n1_ := Aside0.mk (hb); have n2_ := Aside0.mk (ho); clear HO_3; clear HB; clear HO111; have HO_3 := n0_; have HB := n1_; have HO114 := n2_; clear n0_ n1_ n2_; clear ho hb hg hat))
              go_roundg k1
              case measure => have := HK1.out; omega
              case rel => exact ⟨(wrap64 (Int.tdiv x0_1 10)), (y112), (by first | rfl | (simp; done) | (simp [*]; done)), H', ⟨by have := HK1.out; omega⟩, ⟨by (with_reducible repeat (first | apply Kd.R_alloc | apply Kd.R_drewN | apply Kd.R_drew)); exact Kd.R_mono HO114.out (fun _ hk => trivial)⟩, ⟨by repeat (first | (with_reducible first | exact HB.out | apply below_alloc | apply pw_below_drewN | apply below_drew1) | exact HB.out)⟩⟩
            · rw [if_neg c9] at H
              exact absurd H (by simp)
          · rw [if_neg c8] at H
            have c8b0 : decide ((Int.tmod x0_1 10) < 0) = false := decide_eq_false c8
            clear c8
            obtain ⟨y115, hy115⟩ : ∃ y_ : List Int, y_ = (([(wrap64 (48 + (Int.tmod x0_1 10))) % 256] : List Int)) := ⟨_, rfl⟩
            replace H : (if y115.length + x3_1.length < 140737488355328 then (spec_NumDigits.l0 k1 (wrap64 (Int.tdiv x0_1 10)) (y115 ++ x3_1) (decide (a0 < 0))) else (none)) = some r := by first | (rw [hy115]; with_reducible exact H) | (have H2_ := (Option.bind_some _ _).symm.trans H; rw [hy115]; with_reducible exact H2_) | (have H2_ := (Option.bind_some _ _).symm.trans H; with_reducible exact H2_) | with_reducible exact H | (rw [hy115]; exact H) | exact H
            have Ny115 := Aside0.mk hy115
            clear hy115
            by_cases c14 : y115.length + x3_1.length < 140737488355328
            · rw [if_pos c14] at H
              have LMc14 := Aside0.mk c14
              clear c14
              obtain ⟨y118, hy118⟩ : ∃ y_ : List Int, y_ = (y115 ++ x3_1) := ⟨_, rfl⟩
              replace H : (spec_NumDigits.l0 k1 (wrap64 (Int.tdiv x0_1 10)) y118 (decide (a0 < 0))) = some r := by first | (rw [hy118]; with_reducible exact H) | (have H2_ := (Option.bind_some _ _).symm.trans H; rw [hy118]; with_reducible exact H2_) | (have H2_ := (Option.bind_some _ _).symm.trans H; with_reducible exact H2_) | with_reducible exact H | (rw [hy118]; exact H) | exact H
              have Ny118 := Aside0.mk hy118
              clear hy118
              have H' := Aside0.mk H
              clear H
              go_wp2_with (first | ((with_reducible refine gate_dst (N := 21) rfl ?_); refine Kd.R_lit (Kd.int .u8) _ 5 ?hg (N := 21) ?hd (xs := ([(wrap64 (48 + (Int.tmod x0_1 10))) % 256] : List Int)) (inner := [.int .u8 ((wrap64 (48 + (Int.tmod x0_1 10))) % 256)]) (ok := fun _ => True) (okp := fun _ => True) ?hr ?hp (fun _ hk => hk) trivial (Below.refl _ _) (Nat.le_refl _) (by simp) ?_; (case hd => rfl); (case hg => rfl); (case hr => first | (go_simp; done) | (go_simp; rfl)); (case hp => exact (Reps.one (show Kd.M (Kd.int .u8) _ _ _ ((wrap64 (48 + (Int.tmod x0_1 10))) % 256) [.int .u8 ((wrap64 (48 + (Int.tmod x0_1 10))) % 256)] from rfl) (Reps.none _ _))); intro v116 w15 ho16 hb hg_ hnew_; clear hg_ hnew_; (first | rw [← Ny115.out] at ho16 | (simp only [Int.reduceToNat] at ho16; rw [← Ny115.out] at ho16)); have n0_ := Aside0.mk (Kd.R_elder' (by (with_reducible repeat (first | apply Kd.R_alloc | apply Kd.R_drewN | apply Kd.R_drew)); exact HO_3.out) (Kd.R_base ho16) hb); have n1_ := Aside0.mk (Kd.R_lower (Kd.R_new' ho16 (Kd.R_lt (by (with_reducible repeat (first | apply Kd.R_alloc | apply Kd.R_drewN | apply Kd.R_drew)); exact HO_3.out))) (below_size (by repeat (first | (with_reducible first | exact HB.out | apply below_alloc | apply pw_below_drewN | apply below_drew1) | exact HB.out)))); have n2_ := Aside0.mk (below_step (by repeat (first | (with_reducible first | exact HB.out | apply below_alloc | apply pw_below_drewN | apply below_drew1) | exact HB.out)) hb); clear HO_3; clear HB; have HO_3 := n0_; have HO117 := n1_; have HB := n2_; clear n0_ n1_ n2_; clear hb ho16; obtain ⟨Ao18, co18, eo18⟩ := Kd.R_slice HO_3.out; subst eo18) | ((with_reducible refine gate_builtin (b := .append) (xs := #[.tmp 21, .tmp 22]) rfl ?_); at_builtin; refine Kd.R_append_rows (Kd.int .u8) (w0 := w) w.heap.size rfl (.tmp 21) (.tmp 22) 22 5 (.int .u8 0) 1 rfl Tryd.underlying22 info5 rfl (by decide) (by omega) v116 y115 x3_1 _ _ _ (fun k_ => some k_ ≠ (.slice Ao18 x3_1.length co18 : Value).ownBlock) (fun _ => False) rfl rfl ?aO ?aR (fun _ _ h => h) (fun _ h => h.elim) ?aF ?aB ?aS ?aL ?_; (case aR => repeat (first | exact (Kd.R_reads' HO_3.out).2.2 | (with_reducible refine Kd.C_alloc ?_ _) | (with_reducible refine Kd.C_drewN ?_ _) | (with_reducible refine Kd.C_drew ?_))); (case aB => exact (by repeat (first | (with_reducible first | exact HB.out | apply below_alloc | apply pw_below_drewN | apply below_drew1) | exact HB.out))); (case aF => exact (fun k_ hk => Kd.fresh' (Kd.R_lt (by (with_reducible repeat (first | apply Kd.R_alloc | apply Kd.R_drewN | apply Kd.R_drew)); exact HO_3.out)) k_ hk)); (case aO => exact (by (with_reducible repeat (first | apply Kd.R_alloc | apply Kd.R_drewN | apply Kd.R_drew)); exact Kd.R_mono HO117.out (fun _ hk => hk.2))); (case aS => exact (below_size (by repeat (first | (with_reducible first | exact HB.out | apply below_alloc | apply pw_below_drewN | apply below_drew1) | exact HB.out)))); (case aL => have := LMc14.out; omega); intro v119 w17 ho hb hg hat; rw [← Ny118.out] at ho; have n0_ := Aside0.mk (Kd.R_after (ok := (fun _ => True)) (by (with_reducible repeat (first | apply Kd.R_alloc | apply Kd.R_drewN | apply Kd.R_drew)); exact HO_3.out) hg hat); have n1_ := Aside0.mk (hb); have n2_ := Aside0.mk (ho); clear HO_3; clear HB; clear HO117; have HO_3 := n0_; have HB := n1_; have HO120 := n2_; clear n0_ n1_ n2_; clear ho hb hg hat))
              go_roundg k1
              case measure => have := HK1.out; omega
              case rel => exact ⟨(wrap64 (Int.tdiv x0_1 10)), (y118), (by first | rfl | (simp; done) | (simp [*]; done)), H', ⟨by have := HK1.out; omega⟩, ⟨by (with_reducible repeat (first | apply Kd.R_alloc | apply Kd.R_drewN | apply Kd.R_drew)); exact Kd.R_mono HO120.out (fun _ hk => trivial)⟩, ⟨by repeat (first | (with_reducible first | exact HB.out | apply below_alloc | apply pw_below_drewN | apply below_drew1) | exact HB.out)⟩⟩
            · rw [if_neg c14] at H
              exact absurd H (by simp)

-- NOT PRINTED: function 33 (strconv_ParseInt_33)

-- NOT PRINTED: function 34 (intstr_FromString)

-- NOT PRINTED: function 27 (intstr_Parse)

-- NOT PRINTED: function 12 (impl_IntStrParse)

end Go.Proofs.YtihlmkgffifknaaDoor.PFnIntStrText
