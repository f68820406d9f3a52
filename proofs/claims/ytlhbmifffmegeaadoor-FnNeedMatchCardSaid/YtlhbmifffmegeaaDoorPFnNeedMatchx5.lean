/- Functions of the program as plain Lean functions, and that the machine's calls do what these say: written for this claim by wip/myprint.py over the kit's print.py. -/
import Derived.Test.YtlhbmifffmegeaaDoorPFnNeedMatchx0
import Derived.Test.YtlhbmifffmegeaaDoorPFnNeedMatchx1
import Derived.Test.YtlhbmifffmegeaaDoorPFnNeedMatchx3
namespace Go.Proofs.YtlhbmifffmegeaaDoor.PFnNeedMatch
open Go.RowKit Go.Proofs.YtlhbmifffmegeaaDoorW.PrintWords Go.Proofs.YtlhbmifffmegeaaDoorW.PrintLast Go.Proofs.YtlhbmifffmegeaaDoorW.PrintMore
attribute [local go_sem] max2_int min2_int max_two min_two max_three min_three max_four min_four   -- for this text's walks alone
set_option linter.unusedVariables false
set_option linter.unusedSimpArgs false

/-- A state of type 54 at block g of W; what its slices lead to came in by w0. -/
def IsS54 (w0 W : World) (g : Nat) (f0 : ByteArray) (f1 : ByteArray) (f2 : List ByteArray) : Prop := ∃ A2 c2, W.heap[g]? = some (.cells #[.string f0, .string f1, .slice A2 f2.length c2] 54 (0, 0)) ∧ w0.heap.size ≤ g ∧ Kd.C Kd.string w0 A2 f2.length f2
theorem IsS54.grown {w0 W : World} {g : Nat} {f0 : ByteArray} {f1 : ByteArray} {f2 : List ByteArray} {W1 : World} {row : Option Nat} (h : IsS54 w0 W g f0 f1 f2) (hw : W.grownBy W1 row) (hne : some g ≠ row) : IsS54 w0 W1 g f0 f1 f2 := by
  obtain ⟨A2, c2, hb, hg, hr2⟩ := h
  exact ⟨A2, c2, blk_grown hb hw hne, hg, hr2⟩
theorem IsS54.own_neN {w0 W : World} {g : Nat} {f0 : ByteArray} {f1 : ByteArray} {f2 : List ByteArray} {α : Type} {d : Kd α} {e : Nat} {base : Nat} {ok : Nat → Prop} {v : Value} {xs : List α} (h : IsS54 w0 W g f0 f1 f2) (ho : Kd.N d e W base ok v xs) (ht : e ≠ 54) : some g ≠ v.ownBlock := by
  obtain ⟨A2, c2, hb, hg, hr2⟩ := h
  exact Kd.N_ne ho hb ht
theorem IsS54.fresh {w0 W : World} {g : Nat} {f0 : ByteArray} {f1 : ByteArray} {f2 : List ByteArray} (h : IsS54 w0 W g f0 f1 f2) : ∀ k, W.heap.size ≤ k → k ≠ g := by
  obtain ⟨A2, c2, hb, hg, hr2⟩ := h
  exact Kd.freshB hb
theorem IsS54.kept {w0 W : World} {g : Nat} {f0 : ByteArray} {f1 : ByteArray} {f2 : List ByteArray} {W1 : World} {S : Nat → Prop} (h : IsS54 w0 W g f0 f1 f2) (hk : Kept W W1 S) (hne : ¬ S g) : IsS54 w0 W1 g f0 f1 f2 := by
  obtain ⟨A2, c2, hb, hg, hr2⟩ := h
  exact ⟨A2, c2, blk_kept hb hk hne, hg, hr2⟩
theorem IsS54.below {w0 W : World} {g : Nat} {f0 : ByteArray} {f1 : ByteArray} {f2 : List ByteArray} {W1 : World} (h : IsS54 w0 W g f0 f1 f2) (hw : Below W.heap.size W W1) : IsS54 w0 W1 g f0 f1 f2 := h.grown (grown_of_below hw none) (by simp)
theorem IsS54.alloc {w0 W : World} {g : Nat} {f0 : ByteArray} {f1 : ByteArray} {f2 : List ByteArray} (h : IsS54 w0 W g f0 f1 f2) (o : Obj) : IsS54 w0 (W.alloc o) g f0 f1 f2 := h.below (below_alloc (Below.refl _ _) o)
theorem IsS54.drewN {w0 W : World} {g : Nat} {f0 : ByteArray} {f1 : ByteArray} {f2 : List ByteArray} (h : IsS54 w0 W g f0 f1 f2) (m : Nat) : IsS54 w0 (W.drewN m) g f0 f1 f2 := h
theorem IsS54.drew {w0 W : World} {g : Nat} {f0 : ByteArray} {f1 : ByteArray} {f2 : List ByteArray} (h : IsS54 w0 W g f0 f1 f2) : IsS54 w0 W.drew g f0 f1 f2 := h
theorem IsS54.at_ {w0 W : World} {g : Nat} {f0 : ByteArray} {f1 : ByteArray} {f2 : List ByteArray} {w' : World} {m : Nat} (hq : W.drewN m = w') (h : IsS54 w0 W g f0 f1 f2) : IsS54 w0 w' g f0 f1 f2 := by subst hq; exact IsS54.drewN h m
theorem IsS54.apart {w0 W : World} {g : Nat} {f0 : ByteArray} {f1 : ByteArray} {f2 : List ByteArray} {α : Type} {d : Kd α} {e : Nat} {base : Nat} {ok : Nat → Prop} {v : Value} {xs : List α} (h : IsS54 w0 W g f0 f1 f2) (ho : d.R e W base ok v xs) (ht : ∀ q, q ∈ e :: d.E → q ≠ 54) : d.R e W base (fun k => ok k ∧ k ≠ g) v xs := by
  obtain ⟨A2, c2, hb, hg, hr2⟩ := h
  exact Kd.R_types ho hb ht
theorem IsS54.own_ne {w0 W : World} {g : Nat} {f0 : ByteArray} {f1 : ByteArray} {f2 : List ByteArray} {α : Type} {d : Kd α} {e : Nat} {base : Nat} {ok : Nat → Prop} {v : Value} {xs : List α} (h : IsS54 w0 W g f0 f1 f2) (ho : d.R e W base ok v xs) (ht : e ≠ 54) : some g ≠ v.ownBlock := by
  obtain ⟨A2, c2, hb, hg, hr2⟩ := h
  exact Kd.R_ne ho hb ht
theorem IsS54.apartQ {w0 W : World} {g : Nat} {f0 : ByteArray} {f1 : ByteArray} {f2 : List ByteArray} {α : Type} {d : Kd α} {e : Nat} {base : Nat} {ok : Nat → Prop} {v : Value} {xs : List α} (h : IsS54 w0 W g f0 f1 f2) (ho : d.Q e W base ok v xs) (ht : ∀ q, q ∈ e :: d.E → q ≠ 54) : d.Q e W base (fun k => ok k ∧ k ≠ g) v xs := by
  obtain ⟨A2, c2, hb, hg, hr2⟩ := h
  exact Kd.Q_types ho hb ht
theorem IsS54.own_neQ {w0 W : World} {g : Nat} {f0 : ByteArray} {f1 : ByteArray} {f2 : List ByteArray} {α : Type} {d : Kd α} {e : Nat} {base : Nat} {ok : Nat → Prop} {v : Value} {xs : List α} (h : IsS54 w0 W g f0 f1 f2) (ho : d.Q e W base ok v xs) (ht : e ≠ 54) : some g ≠ v.ownBlock := by
  obtain ⟨A2, c2, hb, hg, hr2⟩ := h
  exact Kd.Q_ne ho hb ht
theorem IsS54.apartS {w0 W : World} {g : Nat} {f0 : ByteArray} {f1 : ByteArray} {f2 : List ByteArray} {α : Type} {d : Kd α} {e : Nat} {base : Nat} {ok : Nat → Prop} {v : Value} {xs : List α} (h : IsS54 w0 W g f0 f1 f2) (ho : d.S e W base ok v xs) (ht : ∀ q, q ∈ e :: d.E → q ≠ 54) : d.S e W base (fun k => ok k ∧ k ≠ g) v xs := by
  obtain ⟨A2, c2, hb, hg, hr2⟩ := h
  exact Kd.S_types ho hb ht
theorem IsS54.own_neS {w0 W : World} {g : Nat} {f0 : ByteArray} {f1 : ByteArray} {f2 : List ByteArray} {α : Type} {d : Kd α} {e : Nat} {base : Nat} {ok : Nat → Prop} {v : Value} {xs : List α} (h : IsS54 w0 W g f0 f1 f2) (ho : d.S e W base ok v xs) (ht : e ≠ 54) : some g ≠ v.ownBlock := by
  obtain ⟨A2, c2, hb, hg, hr2⟩ := h
  exact Kd.S_ne ho hb ht
theorem IsS54.lt {w0 W : World} {g : Nat} {f0 : ByteArray} {f1 : ByteArray} {f2 : List ByteArray} (h : IsS54 w0 W g f0 f1 f2) : g < W.heap.size := by
  obtain ⟨A2, c2, hb, hg, hr2⟩ := h
  exact blk_lt hb
theorem IsS54.ge {w0 W : World} {g : Nat} {f0 : ByteArray} {f1 : ByteArray} {f2 : List ByteArray} (h : IsS54 w0 W g f0 f1 f2) : w0.heap.size ≤ g := by
  obtain ⟨A2, c2, hb, hg, hr2⟩ := h
  exact hg
theorem IsS54.ne_blk {w0 W : World} {g : Nat} {f0 : ByteArray} {f1 : ByteArray} {f2 : List ByteArray} {a : Nat} {cs : Array Value} {t : TypeId} {fr : Nat × Nat} (h : IsS54 w0 W g f0 f1 f2) (hb2 : W.heap[a]? = some (.cells cs t fr)) (ht : t ≠ 54) : g ≠ a := by
  obtain ⟨A2, c2, hb, hg, hr2⟩ := h
  rintro rfl
  rw [hb] at hb2
  injection hb2 with hb2
  injection hb2 with _ ht2
  exact ht ht2.symm
theorem IsS54.far {w0 W : World} {g : Nat} {f0 : ByteArray} {f1 : ByteArray} {f2 : List ByteArray} {p : Addr} (h : IsS54 w0 W g f0 f1 f2) (hne : g ≠ p.block) (u : Value) : IsS54 w0 (W.setCell p u) g f0 f1 f2 := by
  obtain ⟨A2, c2, hb, hg, hr2⟩ := h
  exact ⟨A2, c2, blk_far hb hne u, hg, hr2⟩
theorem cellS54_0 {W : World} {g : Nat} {A2 : Option Addr} {c2 : Nat} {f0 : ByteArray} {f1 : ByteArray} {f2 : List ByteArray} (h : W.heap[g]? = some (.cells #[.string f0, .string f1, .slice A2 f2.length c2] 54 (0, 0))) : W.cell? ⟨g, 0, none⟩ = some (.string f0) := (blk_cell h 0).trans rfl
theorem IsS54.set_0 {w0 W : World} {g : Nat} {f0 : ByteArray} {f1 : ByteArray} {f2 : List ByteArray} (h : IsS54 w0 W g f0 f1 f2) (x : ByteArray) : IsS54 w0 (W.setCell ⟨g, 0, none⟩ (.string x)) g x f1 f2 := by
  obtain ⟨A2, c2, hb, hg, hr2⟩ := h
  exact ⟨A2, c2, by simpa using blk_set hb 0 (.string x), hg, hr2⟩
theorem cellS54_1 {W : World} {g : Nat} {A2 : Option Addr} {c2 : Nat} {f0 : ByteArray} {f1 : ByteArray} {f2 : List ByteArray} (h : W.heap[g]? = some (.cells #[.string f0, .string f1, .slice A2 f2.length c2] 54 (0, 0))) : W.cell? ⟨g, 1, none⟩ = some (.string f1) := (blk_cell h 1).trans rfl
theorem IsS54.set_1 {w0 W : World} {g : Nat} {f0 : ByteArray} {f1 : ByteArray} {f2 : List ByteArray} (h : IsS54 w0 W g f0 f1 f2) (x : ByteArray) : IsS54 w0 (W.setCell ⟨g, 1, none⟩ (.string x)) g f0 x f2 := by
  obtain ⟨A2, c2, hb, hg, hr2⟩ := h
  exact ⟨A2, c2, by simpa using blk_set hb 1 (.string x), hg, hr2⟩
theorem cellS54_2 {W : World} {g : Nat} {A2 : Option Addr} {c2 : Nat} {f0 : ByteArray} {f1 : ByteArray} {f2 : List ByteArray} (h : W.heap[g]? = some (.cells #[.string f0, .string f1, .slice A2 f2.length c2] 54 (0, 0))) : W.cell? ⟨g, 2, none⟩ = some (.slice A2 f2.length c2) := (blk_cell h 2).trans rfl
theorem IsS54.new (w0 W : World) (A2 : Option Addr) (c2 : Nat) (f0 : ByteArray) (f1 : ByteArray) (f2 : List ByteArray) (hB : Below w0.heap.size w0 W) (hr2 : Kd.C Kd.string w0 A2 f2.length f2) : IsS54 w0 (W.alloc (.cells #[.string f0, .string f1, .slice A2 f2.length c2] 54)) W.heap.size f0 f1 f2 := ⟨A2, c2, by simpa using heap_alloc_new W _, hB.size, hr2⟩

/-! ### labels_Requirement_hasValue: function 43 -/
def labels_Requirement_hasValue.l0 : Nat → ByteArray → Int → Int → ByteArray → ByteArray → List ByteArray → Option (Bool × ByteArray × ByteArray)
  | 0, _, _, _, _, _, _ => none
  | k + 1, x1, x10, x11, x1000, x1001, x1002 => if x11 < x10 then (if 0 ≤ x11 then (if x11 < (x1002.length : Int) then (if (rdOf ByteArray.empty x1002 x11).toList = x1.toList then (some (true, x1000, x1001)) else (labels_Requirement_hasValue.l0 k x1 x10 (wrap64 (x11 + 1)) x1000 x1001 x1002)) else (none)) else (none)) else (some (false, x1000, x1001))
def labels_Requirement_hasValue.f (k : Nat) (s0_0 : ByteArray) (s0_1 : ByteArray) (s0_2 : List ByteArray) (a1 : ByteArray) : Option (Bool × ByteArray × ByteArray) := labels_Requirement_hasValue.l0 k a1 (s0_2.length : Int) 0 s0_0 s0_1 s0_2
theorem labels_Requirement_hasValue.mono_l : ∀ k, (∀ y0 y1 y2 y3 y4 y5, LeO (labels_Requirement_hasValue.l0 k y0 y1 y2 y3 y4 y5) (labels_Requirement_hasValue.l0 (k + 1) y0 y1 y2 y3 y4 y5))
  | 0 => fun _ _ _ _ _ _ r h => by simp [labels_Requirement_hasValue.l0] at h
  | k + 1 => by
    have ih0 := labels_Requirement_hasValue.mono_l k
    · intro y0 y1 y2 y3 y4 y5
      unfold labels_Requirement_hasValue.l0
      repeat' first
      | (with_reducible exact ih0 _ _ _ _ _ _)
      | (with_reducible exact LeO.refl _)
      | (with_reducible exact LeO.none _)
      | (with_reducible refine LeO.ite ?_ ?_)
      | (with_reducible refine LeO.bind ?_ (fun _ => ?_))
      | exact ih0 _ _ _ _ _ _
      | exact LeO.none _
      | refine LeO.ite ?_ ?_
      | refine LeO.bind ?_ (fun _ => ?_)
theorem labels_Requirement_hasValue.mono : ∀ a0 a1 a2 a3 k, LeO (labels_Requirement_hasValue.f k a0 a1 a2 a3) (labels_Requirement_hasValue.f (k + 1) a0 a1 a2 a3) := by
  intro a0 a1 a2 a3 k
  have ih0 := labels_Requirement_hasValue.mono_l k
  unfold labels_Requirement_hasValue.f
  repeat' first
      | (with_reducible exact ih0 _ _ _ _ _ _)
      | (with_reducible exact LeO.refl _)
      | (with_reducible exact LeO.none _)
      | (with_reducible refine LeO.ite ?_ ?_)
      | (with_reducible refine LeO.bind ?_ (fun _ => ?_))
      | exact ih0 _ _ _ _ _ _
      | exact LeO.none _
      | refine LeO.ite ?_ ?_
      | refine LeO.bind ?_ (fun _ => ?_)
set_option maxHeartbeats 8000000 in
set_option maxRecDepth 100000 in
theorem labels_Requirement_hasValue.calls (k : Nat) (g : Nat) (s0_0 : ByteArray) (s0_1 : ByteArray) (s0_2 : List ByteArray) (a1 : ByteArray) (r1 : Bool) (r2 : ByteArray) (r3 : ByteArray) (w0 w : World) (hI : IsS54 w0 w g s0_0 s0_1 s0_2) (hB : Below w0.heap.size w0 w) (h : labels_Requirement_hasValue.f k s0_0 s0_1 s0_2 a1 = some (r1, r2, r3)) :
    Calls Tryd.prog 43 #[.pointer (some ⟨g, 0, none⟩), .string a1] w fun e w' => e = .returned (.bool r1) ∧ IsS54 w0 w' g r2 r3 s0_2 ∧ Below w0.heap.size w0 w' ∧ KeepBut w w' g none := by
  have HI0 := Aside0.mk hI
  have HK := Aside0.mk (KeepBut.refl w g none)
  have HL := Aside0.mk hB.size
  clear hI
  have HW0 := Aside0.mk hB.size
  have HB := Aside0.mk hB
  clear hB
  have H : (labels_Requirement_hasValue.l0 k a1 (s0_2.length : Int) 0 s0_0 s0_1 s0_2) = some (r1, r2, r3) := h
  clear h
  have H' := Aside0.mk H
  clear H
  obtain ⟨ASz3_2, cSz3_2, HGz3, hgz3, HSz3_2⟩ := HI0.out
  have hcz3_0 := cellS54_0 HGz3
  have hcz3_1 := cellS54_1 HGz3
  have hcz3_2 := cellS54_2 HGz3
  have hfz3_0 := blk_frozen HGz3 0
  have hfz3_1 := blk_frozen HGz3 1
  clear HGz3 hgz3
  go_enter Tryd.func43, Tryd.ntmps43
  go_wp2
  go_loopg [11] k (fun kq v11 w' => ∃ (x11_1 : Int), v11 = .int .i64 x11_1 ∧ Aside0 (labels_Requirement_hasValue.l0 kq a1 (s0_2.length : Int) x11_1 s0_0 s0_1 s0_2 = some (r1, r2, r3)) ∧ Aside0 (kq ≤ k) ∧ Aside0 (IsS54 w0 w' g s0_0 s0_1 s0_2) ∧ Aside0 (KeepBut w w' g none) ∧ Aside0 (Below w0.heap.size w0 w'))
  case atStart => exact ⟨(0), (by first | rfl | (simp; done) | (simp [*]; done)), H', ⟨Nat.le_refl _⟩, ⟨by repeat (first | (with_reducible first | exact HI0.out | apply IsS54.alloc | apply IsS54.drewN | apply IsS54.drew | apply IsS54.set_0 | apply IsS54.set_1) | exact HI0.out)⟩, ⟨by repeat (first | (with_reducible first | exact HK.out | apply KeepBut.set_ | apply keep_drewN | apply keep_drew | apply keep_alloc) | exact HK.out)⟩, ⟨by repeat (first | (with_reducible first | exact HB.out | apply below_alloc | apply pw_below_drewN | apply below_drew1 | refine below_set ?_ (IsS54.ge HI0.out)) | exact HB.out)⟩⟩
  case round =>
    clear H'
    try clear p2
    try clear hcz3_0
    try clear hcz3_1
    try clear hcz3_2
    try clear hfz3_0
    try clear hfz3_1
    obtain ⟨x11_1, rfl, HA, HK1, HI0, HK, HB⟩ := hrel
    cases gk with
    | zero => exact absurd HA.out (by simp [labels_Requirement_hasValue.l0])
    | succ k1 =>
      have H := HA.out
      clear HA
      simp only [labels_Requirement_hasValue.l0] at H
      by_cases c4 : x11_1 < (s0_2.length : Int)
      · rw [if_pos c4] at H
        have c4b0 : decide (x11_1 < (s0_2.length : Int)) = true := decide_eq_true c4
        clear c4
        by_cases c5 : 0 ≤ x11_1
        · rw [if_pos c5] at H
          have c5b0 : decide (0 ≤ x11_1) = true := decide_eq_true c5
          clear c5
          by_cases c6 : x11_1 < (s0_2.length : Int)
          · rw [if_pos c6] at H
            have c6b0 : decide (x11_1 < (s0_2.length : Int)) = true := decide_eq_true c6
            clear c6
            by_cases c7 : (rdOf ByteArray.empty s0_2 x11_1).toList = a1.toList
            · rw [if_pos c7] at H
              have c7b0 : ((rdOf ByteArray.empty s0_2 x11_1).toList == a1.toList) = true := beq_iff_eq.mpr c7
              have c7b1 : ((rdOf ByteArray.empty s0_2 x11_1).toList != a1.toList) = false := bne_eq_false_iff_eq.mpr c7
              clear c7
              simp only [Option.some.injEq, Prod.mk.injEq] at H
              obtain ⟨rfl, rfl, rfl⟩ := H
              obtain ⟨ASz8_2, cSz8_2, HGz8, hgz8, HSz8_2⟩ := HI0.out
              have hcz8_0 := cellS54_0 HGz8
              have hcz8_1 := cellS54_1 HGz8
              have hcz8_2 := cellS54_2 HGz8
              have hfz8_0 := blk_frozen HGz8 0
              have hfz8_1 := blk_frozen HGz8 1
              clear HGz8 hgz8
              have p143 : 0 ≤ (x11_1 : Int) := of_decide_eq_true (by first | (with_reducible assumption) | assumption)
              have q143 : x11_1 < (s0_2.length : Int) := of_decide_eq_true (by first | (with_reducible assumption) | assumption)
              obtain ⟨ad143, e143, hx143_0⟩ := Kd.at_string HSz8_2 x11_1 p143 q143
              cases e143
              replace hx143_0 := pw_cell_below HB.out hx143_0
              replace p143 := eq_true p143
              replace q143 := eq_true q143
              go_wp2
              go_ret
              exact ⟨by first | rfl | (simp [errW_none, errW_some] <;> rfl) | (simp [*, errW_none, errW_some] <;> rfl) | (exfalso; contradiction), by repeat (first | (with_reducible first | exact HI0.out | apply IsS54.alloc | apply IsS54.drewN | apply IsS54.drew | apply IsS54.set_0 | apply IsS54.set_1) | exact HI0.out), by repeat (first | (with_reducible first | exact HB.out | apply below_alloc | apply pw_below_drewN | apply below_drew1 | refine below_set ?_ (IsS54.ge HI0.out)) | exact HB.out), by repeat (first | (with_reducible first | exact HK.out | apply KeepBut.set_ | apply keep_drewN | apply keep_drew | apply keep_alloc) | exact HK.out)⟩
            · rw [if_neg c7] at H
              have c7b0 : ((rdOf ByteArray.empty s0_2 x11_1).toList == a1.toList) = false := beq_eq_false_iff_ne.mpr c7
              have c7b1 : ((rdOf ByteArray.empty s0_2 x11_1).toList != a1.toList) = true := bne_iff_ne.mpr c7
              have H' := Aside0.mk H
              clear H
              obtain ⟨ASz9_2, cSz9_2, HGz9, hgz9, HSz9_2⟩ := HI0.out
              have hcz9_0 := cellS54_0 HGz9
              have hcz9_1 := cellS54_1 HGz9
              have hcz9_2 := cellS54_2 HGz9
              have hfz9_0 := blk_frozen HGz9 0
              have hfz9_1 := blk_frozen HGz9 1
              clear HGz9 hgz9
              have p143 : 0 ≤ (x11_1 : Int) := of_decide_eq_true (by first | (with_reducible assumption) | assumption)
              have q143 : x11_1 < (s0_2.length : Int) := of_decide_eq_true (by first | (with_reducible assumption) | assumption)
              obtain ⟨ad143, e143, hx143_0⟩ := Kd.at_string HSz9_2 x11_1 p143 q143
              cases e143
              replace hx143_0 := pw_cell_below HB.out hx143_0
              replace p143 := eq_true p143
              replace q143 := eq_true q143
              go_wp2
              go_roundg k1
              case measure => have := HK1.out; omega
              case rel => exact ⟨(wrap64 (x11_1 + 1)), (by first | rfl | (simp; done) | (simp [*]; done)), H', ⟨by have := HK1.out; omega⟩, ⟨by repeat (first | (with_reducible first | exact HI0.out | apply IsS54.alloc | apply IsS54.drewN | apply IsS54.drew | apply IsS54.set_0 | apply IsS54.set_1) | exact HI0.out)⟩, ⟨by repeat (first | (with_reducible first | exact HK.out | apply KeepBut.set_ | apply keep_drewN | apply keep_drew | apply keep_alloc) | exact HK.out)⟩, ⟨by repeat (first | (with_reducible first | exact HB.out | apply below_alloc | apply pw_below_drewN | apply below_drew1 | refine below_set ?_ (IsS54.ge HI0.out)) | exact HB.out)⟩⟩
          · rw [if_neg c6] at H
            exact absurd H (by simp)
        · rw [if_neg c5] at H
          exact absurd H (by simp)
      · rw [if_neg c4] at H
        have c4b0 : decide (x11_1 < (s0_2.length : Int)) = false := decide_eq_false c4
        clear c4
        simp only [Option.some.injEq, Prod.mk.injEq] at H
        obtain ⟨rfl, rfl, rfl⟩ := H
        go_wp2
        go_ret
        exact ⟨by first | rfl | (simp [errW_none, errW_some] <;> rfl) | (simp [*, errW_none, errW_some] <;> rfl) | (exfalso; contradiction), by repeat (first | (with_reducible first | exact HI0.out | apply IsS54.alloc | apply IsS54.drewN | apply IsS54.drew | apply IsS54.set_0 | apply IsS54.set_1) | exact HI0.out), by repeat (first | (with_reducible first | exact HB.out | apply below_alloc | apply pw_below_drewN | apply below_drew1 | refine below_set ?_ (IsS54.ge HI0.out)) | exact HB.out), by repeat (first | (with_reducible first | exact HK.out | apply KeepBut.set_ | apply keep_drewN | apply keep_drew | apply keep_alloc) | exact HK.out)⟩

-- NOT PRINTED: function 29 (labels_Requirement_Matches)

-- NOT PRINTED: function 30 (impl_labelSet)

-- NOT PRINTED: function 12 (impl_NeedMatch)

/-! ### spec_Find: function 31 -/
def spec_Find.l0 : Nat → List (S37) → ByteArray → Int → Option (ByteArray × Bool)
  | 0, _, _, _ => none
  | k + 1, x0, x1, x6 => if x6 ≥ 0 then (if 0 ≤ x6 then (if x6 < (x0.length : Int) then (if ((rd_T37 x0 x6).f0).toList = x1.toList then (some ((rd_T37 x0 x6).f1, true)) else (spec_Find.l0 k x0 x1 (wrap64 (x6 - 1)))) else (none)) else (none)) else (some ((⟨#[]⟩ : ByteArray), false))
def spec_Find.f (k : Nat) (l0 : List (S37)) (a1 : ByteArray) : Option (ByteArray × Bool) := spec_Find.l0 k l0 a1 (wrap64 ((l0.length : Int) - 1))
theorem spec_Find.mono_l : ∀ k, (∀ y0 y1 y2, LeO (spec_Find.l0 k y0 y1 y2) (spec_Find.l0 (k + 1) y0 y1 y2))
  | 0 => fun _ _ _ r h => by simp [spec_Find.l0] at h
  | k + 1 => by
    have ih0 := spec_Find.mono_l k
    · intro y0 y1 y2
      unfold spec_Find.l0
      repeat' first
      | (with_reducible exact ih0 _ _ _)
      | (with_reducible exact LeO.refl _)
      | (with_reducible exact LeO.none _)
      | (with_reducible refine LeO.ite ?_ ?_)
      | (with_reducible refine LeO.bind ?_ (fun _ => ?_))
      | exact ih0 _ _ _
      | exact LeO.none _
      | refine LeO.ite ?_ ?_
      | refine LeO.bind ?_ (fun _ => ?_)
theorem spec_Find.mono : ∀ a0 a1 k, LeO (spec_Find.f k a0 a1) (spec_Find.f (k + 1) a0 a1) := by
  intro a0 a1 k
  have ih0 := spec_Find.mono_l k
  unfold spec_Find.f
  repeat' first
      | (with_reducible exact ih0 _ _ _)
      | (with_reducible exact LeO.refl _)
      | (with_reducible exact LeO.none _)
      | (with_reducible refine LeO.ite ?_ ?_)
      | (with_reducible refine LeO.bind ?_ (fun _ => ?_))
      | exact ih0 _ _ _
      | exact LeO.none _
      | refine LeO.ite ?_ ?_
      | refine LeO.bind ?_ (fun _ => ?_)
set_option maxHeartbeats 8000000 in
set_option maxRecDepth 100000 in
theorem spec_Find.calls (k : Nat) (A0 : Option Addr) (c0 : Nat) (l0 : List (S37)) (a1 : ByteArray) (r1 : ByteArray) (r2 : Bool) (w : World) (hr0 : Kd.C k37 w A0 l0.length l0) (hc0 : l0.length ≤ c0) (h : spec_Find.f k l0 a1 = some (r1, r2)) :
    Calls Tryd.prog 31 #[.slice A0 l0.length c0, .string a1] w fun e w' => e = .returned (.tuple #[.string r1, .bool r2]) ∧ Drawn0 w w' := by
  have HR0 := Aside0.mk hr0
  have HC0 := Aside0.mk hc0
  clear hr0 hc0
  have H : (spec_Find.l0 k l0 a1 (wrap64 ((l0.length : Int) - 1))) = some (r1, r2) := h
  clear h
  have H' := Aside0.mk H
  clear H
  go_enter Tryd.func31, Tryd.ntmps31
  go_wp2
  go_loopg [6] k (fun kq v6 w' => ∃ (x6_1 : Int), v6 = .int .i64 x6_1 ∧ Aside0 (spec_Find.l0 kq l0 a1 x6_1 = some (r1, r2)) ∧ Aside0 (kq ≤ k) ∧ Drawn0 w w')
  case atStart => exact ⟨(wrap64 ((l0.length : Int) - 1)), (by first | rfl | (simp; done) | (simp [*]; done)), H', ⟨Nat.le_refl _⟩, by repeat (first | exact Drawn0.refl _ | apply Drawn0.step)⟩
  case round =>
    clear H'
    try clear p2
    obtain ⟨x6_1, rfl, HA, HK1, ⟨m1, rfl⟩⟩ := hrel
    cases gk with
    | zero => exact absurd HA.out (by simp [spec_Find.l0])
    | succ k1 =>
      have H := HA.out
      clear HA
      simp only [spec_Find.l0] at H
      by_cases c3 : x6_1 ≥ 0
      · rw [if_pos c3] at H
        have c3b0 : decide (0 ≤ x6_1) = true := decide_eq_true c3
        clear c3
        by_cases c4 : 0 ≤ x6_1
        · rw [if_pos c4] at H
          have c4b0 : decide (0 ≤ x6_1) = true := decide_eq_true c4
          clear c4
          by_cases c5 : x6_1 < (l0.length : Int)
          · rw [if_pos c5] at H
            have c5b0 : decide (x6_1 < (l0.length : Int)) = true := decide_eq_true c5
            clear c5
            by_cases c6 : ((rd_T37 l0 x6_1).f0).toList = a1.toList
            · rw [if_pos c6] at H
              have c6b0 : (((rd_T37 l0 x6_1).f0).toList == a1.toList) = true := beq_iff_eq.mpr c6
              have c6b1 : (((rd_T37 l0 x6_1).f0).toList != a1.toList) = false := bne_eq_false_iff_eq.mpr c6
              clear c6
              simp only [Option.some.injEq, Prod.mk.injEq] at H
              obtain ⟨rfl, rfl⟩ := H
              have p145 : 0 ≤ (x6_1 : Int) := of_decide_eq_true (by first | (with_reducible assumption) | assumption)
              have q145 : x6_1 < (l0.length : Int) := of_decide_eq_true (by first | (with_reducible assumption) | assumption)
              obtain ⟨ad145, e145, hx145_0, hx145_1⟩ := at_T37 HR0.out x6_1 p145 q145
              cases e145
              replace p145 := eq_true p145
              replace q145 := eq_true q145
              have p146 : 0 ≤ (x6_1 : Int) := of_decide_eq_true (by first | (with_reducible assumption) | assumption)
              have q146 : x6_1 < (l0.length : Int) := of_decide_eq_true (by first | (with_reducible assumption) | assumption)
              obtain ⟨ad146, e146, hx146_0, hx146_1⟩ := at_T37 HR0.out x6_1 p146 q146
              obtain rfl : ad145 = ad146 := (by injection e146)
              replace p146 := eq_true p146
              replace q146 := eq_true q146
              go_wp2
              go_ret2
              exact ⟨by first | rfl | (simp; done) | (simp [*]; done), by repeat (first | exact Drawn0.refl _ | apply Drawn0.step)⟩
            · rw [if_neg c6] at H
              have c6b0 : (((rd_T37 l0 x6_1).f0).toList == a1.toList) = false := beq_eq_false_iff_ne.mpr c6
              have c6b1 : (((rd_T37 l0 x6_1).f0).toList != a1.toList) = true := bne_iff_ne.mpr c6
              have H' := Aside0.mk H
              clear H
              have p145 : 0 ≤ (x6_1 : Int) := of_decide_eq_true (by first | (with_reducible assumption) | assumption)
              have q145 : x6_1 < (l0.length : Int) := of_decide_eq_true (by first | (with_reducible assumption) | assumption)
              obtain ⟨ad145, e145, hx145_0, hx145_1⟩ := at_T37 HR0.out x6_1 p145 q145
              cases e145
              replace p145 := eq_true p145
              replace q145 := eq_true q145
              go_wp2
              go_roundg k1
              case measure => have := HK1.out; omega
              case rel => exact ⟨(wrap64 (x6_1 - 1)), (by first | rfl | (simp; done) | (simp [*]; done)), H', ⟨by have := HK1.out; omega⟩, by repeat (first | exact Drawn0.refl _ | apply Drawn0.step)⟩
          · rw [if_neg c5] at H
            exact absurd H (by simp)
        · rw [if_neg c4] at H
          exact absurd H (by simp)
      · rw [if_neg c3] at H
        have c3b0 : decide (0 ≤ x6_1) = false := decide_eq_false c3
        clear c3
        simp only [Option.some.injEq, Prod.mk.injEq] at H
        obtain ⟨rfl, rfl⟩ := H
        go_wp2
        go_ret2
        exact ⟨by first | rfl | (simp; done) | (simp [*]; done), by repeat (first | exact Drawn0.refl _ | apply Drawn0.step)⟩

/-! ### spec_NeedMatch: function 13 -/
mutual
def spec_NeedMatch.j0 : Nat → ByteArray → Bool → ByteArray → Bool → ByteArray → ByteArray → List ByteArray → Option (Bool)
  | 0, _, _, _, _, _, _, _ => none
  | k + 1, x5, x6, x19, x20, x148000, x148001, x148002 => if x20 = true then (if x6 = true then ((spec_keyIn_string.f k x148002 x5).bind fun t150 => (some t150)) else (some false)) else (if x19.toList = ([110, 111, 116, 105, 110] : List UInt8) then (spec_NeedMatch.j1 k x5 x6 x19 (x19.toList == ([110, 111, 116, 105, 110] : List UInt8)) x148000 x148001 x148002) else (spec_NeedMatch.j1 k x5 x6 x19 (x19.toList == ([33, 61] : List UInt8)) x148000 x148001 x148002))
def spec_NeedMatch.j1 : Nat → ByteArray → Bool → ByteArray → Bool → ByteArray → ByteArray → List ByteArray → Option (Bool)
  | 0, _, _, _, _, _, _, _ => none
  | k + 1, x5, x6, x19, x31, x148000, x148001, x148002 => if x31 = true then (if x6 = true then ((spec_keyIn_string.f k x148002 x5).bind fun t151 => (some (!t151))) else (some true)) else (if x19.toList = ([101, 120, 105, 115, 116, 115] : List UInt8) then (some x6) else (if x19.toList = ([33] : List UInt8) then (some (!x6)) else ((spec_NeedNumber.f x5).bind fun bt152 => (if x6 = true then (spec_NeedMatch.j2 k bt152.1 (!bt152.2) x148000 x148001 x148002) else (spec_NeedMatch.j2 k bt152.1 true x148000 x148001 x148002)))))
def spec_NeedMatch.j2 : Nat → Int → Bool → ByteArray → ByteArray → List ByteArray → Option (Bool)
  | 0, _, _, _, _, _ => none
  | k + 1, x7, x60, x148000, x148001, x148002 => if x60 = true then (some false) else (if 0 < (x148002.length : Int) then ((spec_NeedNumber.f (rdOf ByteArray.empty x148002 0)).bind fun bt155 => (if x148001.toList = ([103, 116] : List UInt8) then (some (decide (x7 > bt155.1))) else (some (decide (x7 < bt155.1))))) else (none))
end
def spec_NeedMatch.f (k : Nat) (a0_0 : ByteArray) (a0_1 : ByteArray) (l0_2 : List ByteArray) (l1 : List (S37)) : Option (Bool) := (spec_Find.f k l1 a0_0).bind fun bt148 => (if a0_1.toList = ([105, 110] : List UInt8) then (spec_NeedMatch.j0 k bt148.1 bt148.2 a0_1 (a0_1.toList == ([105, 110] : List UInt8)) a0_0 a0_1 l0_2) else (if a0_1.toList = ([61] : List UInt8) then (spec_NeedMatch.j0 k bt148.1 bt148.2 a0_1 (a0_1.toList == ([61] : List UInt8)) a0_0 a0_1 l0_2) else (spec_NeedMatch.j0 k bt148.1 bt148.2 a0_1 (a0_1.toList == ([61, 61] : List UInt8)) a0_0 a0_1 l0_2)))
theorem spec_NeedMatch.mono_l : ∀ k, (∀ y0 y1 y2 y3 y4 y5 y6, LeO (spec_NeedMatch.j0 k y0 y1 y2 y3 y4 y5 y6) (spec_NeedMatch.j0 (k + 1) y0 y1 y2 y3 y4 y5 y6)) ∧ (∀ y0 y1 y2 y3 y4 y5 y6, LeO (spec_NeedMatch.j1 k y0 y1 y2 y3 y4 y5 y6) (spec_NeedMatch.j1 (k + 1) y0 y1 y2 y3 y4 y5 y6)) ∧ (∀ y0 y1 y2 y3 y4, LeO (spec_NeedMatch.j2 k y0 y1 y2 y3 y4) (spec_NeedMatch.j2 (k + 1) y0 y1 y2 y3 y4))
  | 0 => ⟨fun _ _ _ _ _ _ _ r h => by simp [spec_NeedMatch.j0] at h, fun _ _ _ _ _ _ _ r h => by simp [spec_NeedMatch.j1] at h, fun _ _ _ _ _ r h => by simp [spec_NeedMatch.j2] at h⟩
  | k + 1 => by
    obtain ⟨ih0, ih1, ih2⟩ := spec_NeedMatch.mono_l k
    refine ⟨?_, ?_, ?_⟩
    · intro y0 y1 y2 y3 y4 y5 y6
      unfold spec_NeedMatch.j0
      repeat' first
      | (with_reducible exact ih0 _ _ _ _ _ _ _)
      | (with_reducible exact ih1 _ _ _ _ _ _ _)
      | (with_reducible exact ih2 _ _ _ _ _)
      | (with_reducible exact spec_Find.mono _ _ _)
      | (with_reducible exact spec_keyIn_string.mono _ _ _)
      | (with_reducible exact LeO.refl _)
      | (with_reducible exact LeO.none _)
      | (with_reducible refine LeO.ite ?_ ?_)
      | (with_reducible refine LeO.bind ?_ (fun _ => ?_))
      | exact ih0 _ _ _ _ _ _ _
      | exact ih1 _ _ _ _ _ _ _
      | exact ih2 _ _ _ _ _
      | exact spec_Find.mono _ _ _
      | exact spec_keyIn_string.mono _ _ _
      | exact LeO.none _
      | refine LeO.ite ?_ ?_
      | refine LeO.bind ?_ (fun _ => ?_)
    · intro y0 y1 y2 y3 y4 y5 y6
      unfold spec_NeedMatch.j1
      repeat' first
      | (with_reducible exact ih0 _ _ _ _ _ _ _)
      | (with_reducible exact ih1 _ _ _ _ _ _ _)
      | (with_reducible exact ih2 _ _ _ _ _)
      | (with_reducible exact spec_Find.mono _ _ _)
      | (with_reducible exact spec_keyIn_string.mono _ _ _)
      | (with_reducible exact LeO.refl _)
      | (with_reducible exact LeO.none _)
      | (with_reducible refine LeO.ite ?_ ?_)
      | (with_reducible refine LeO.bind ?_ (fun _ => ?_))
      | exact ih0 _ _ _ _ _ _ _
      | exact ih1 _ _ _ _ _ _ _
      | exact ih2 _ _ _ _ _
      | exact spec_Find.mono _ _ _
      | exact spec_keyIn_string.mono _ _ _
      | exact LeO.none _
      | refine LeO.ite ?_ ?_
      | refine LeO.bind ?_ (fun _ => ?_)
    · intro y0 y1 y2 y3 y4
      unfold spec_NeedMatch.j2
      repeat' first
      | (with_reducible exact ih0 _ _ _ _ _ _ _)
      | (with_reducible exact ih1 _ _ _ _ _ _ _)
      | (with_reducible exact ih2 _ _ _ _ _)
      | (with_reducible exact spec_Find.mono _ _ _)
      | (with_reducible exact spec_keyIn_string.mono _ _ _)
      | (with_reducible exact LeO.refl _)
      | (with_reducible exact LeO.none _)
      | (with_reducible refine LeO.ite ?_ ?_)
      | (with_reducible refine LeO.bind ?_ (fun _ => ?_))
      | exact ih0 _ _ _ _ _ _ _
      | exact ih1 _ _ _ _ _ _ _
      | exact ih2 _ _ _ _ _
      | exact spec_Find.mono _ _ _
      | exact spec_keyIn_string.mono _ _ _
      | exact LeO.none _
      | refine LeO.ite ?_ ?_
      | refine LeO.bind ?_ (fun _ => ?_)
theorem spec_NeedMatch.mono : ∀ a0 a1 a2 a3 k, LeO (spec_NeedMatch.f k a0 a1 a2 a3) (spec_NeedMatch.f (k + 1) a0 a1 a2 a3) := by
  intro a0 a1 a2 a3 k
  obtain ⟨ih0, ih1, ih2⟩ := spec_NeedMatch.mono_l k
  unfold spec_NeedMatch.f
  repeat' first
      | (with_reducible exact ih0 _ _ _ _ _ _ _)
      | (with_reducible exact ih1 _ _ _ _ _ _ _)
      | (with_reducible exact ih2 _ _ _ _ _)
      | (with_reducible exact spec_Find.mono _ _ _)
      | (with_reducible exact spec_keyIn_string.mono _ _ _)
      | (with_reducible exact LeO.refl _)
      | (with_reducible exact LeO.none _)
      | (with_reducible refine LeO.ite ?_ ?_)
      | (with_reducible refine LeO.bind ?_ (fun _ => ?_))
      | exact ih0 _ _ _ _ _ _ _
      | exact ih1 _ _ _ _ _ _ _
      | exact ih2 _ _ _ _ _
      | exact spec_Find.mono _ _ _
      | exact spec_keyIn_string.mono _ _ _
      | exact LeO.none _
      | refine LeO.ite ?_ ?_
      | refine LeO.bind ?_ (fun _ => ?_)
set_option maxHeartbeats 8000000 in
set_option maxRecDepth 100000 in
theorem spec_NeedMatch.calls (k : Nat) (a0_0 : ByteArray) (a0_1 : ByteArray) (A0_2 : Option Addr) (c0_2 : Nat) (l0_2 : List ByteArray) (A1 : Option Addr) (c1 : Nat) (l1 : List (S37)) (r : Bool) (w : World) (hr0_2 : Kd.C Kd.string w A0_2 l0_2.length l0_2) (hc0_2 : l0_2.length ≤ c0_2) (hr1 : Kd.C k37 w A1 l1.length l1) (hc1 : l1.length ≤ c1) (h : spec_NeedMatch.f k a0_0 a0_1 l0_2 l1 = some r) :
    Calls Tryd.prog 13 #[.agg #[.string a0_0, .string a0_1, .slice A0_2 l0_2.length c0_2], .slice A1 l1.length c1] w fun e w' => e = .returned (.bool r) ∧ Below w.heap.size w w' := by
  have hu24 := Tryd.underlying24
  have HR0_2 := Aside0.mk hr0_2
  have HC0_2 := Aside0.mk hc0_2
  clear hr0_2 hc0_2
  have HR1 := Aside0.mk hr1
  have HC1 := Aside0.mk hc1
  clear hr1 hc1
  have HB := Aside0.mk (Below.refl w.heap.size w)
  have H : ((spec_Find.f k l1 a0_0).bind fun bt148 => (if a0_1.toList = ([105, 110] : List UInt8) then (spec_NeedMatch.j0 k bt148.1 bt148.2 a0_1 (a0_1.toList == ([105, 110] : List UInt8)) a0_0 a0_1 l0_2) else (if a0_1.toList = ([61] : List UInt8) then (spec_NeedMatch.j0 k bt148.1 bt148.2 a0_1 (a0_1.toList == ([61] : List UInt8)) a0_0 a0_1 l0_2) else (spec_NeedMatch.j0 k bt148.1 bt148.2 a0_1 (a0_1.toList == ([61, 61] : List UInt8)) a0_0 a0_1 l0_2)))) = some r := h
  clear h
  replace H := Option.bind_eq_some_iff.mp H
  obtain ⟨⟨t148, t149⟩, A30, H⟩ := H
  replace H : (if a0_1.toList = ([105, 110] : List UInt8) then (spec_NeedMatch.j0 k t148 t149 a0_1 (a0_1.toList == ([105, 110] : List UInt8)) a0_0 a0_1 l0_2) else (if a0_1.toList = ([61] : List UInt8) then (spec_NeedMatch.j0 k t148 t149 a0_1 (a0_1.toList == ([61] : List UInt8)) a0_0 a0_1 l0_2) else (spec_NeedMatch.j0 k t148 t149 a0_1 (a0_1.toList == ([61, 61] : List UInt8)) a0_0 a0_1 l0_2))) = some r := H
  have A3 := Aside0.mk A30
  clear A30
  have HC4 := Aside0.mk H
  clear H
  go_enter Tryd.func13, Tryd.ntmps13
  go_upto_if 20 with (first | ((with_reducible refine gate_dst (N := 2) rfl ?_); refine box_event ?hg (N := 2) ?hd (cs := #[.string a0_0, .string a0_1, .slice A0_2 l0_2.length c0_2]) (t := 24) ?hr ?_; (case hd => rfl); (case hg => rfl); (case hr => first | (go_simp; done) | (go_simp; rfl)); intro gb147 hg w5 hbox hb; have n0_ := Aside0.mk (below_step (by repeat (first | (with_reducible first | exact HB.out | apply below_alloc | apply pw_below_drewN | apply below_drew1) | exact HB.out)) hb); have n1_ := Aside0.mk (hbox); have n2_ := Aside0.mk ((by rw [hg]; exact (below_size (by repeat (first | (with_reducible first | exact HB.out | apply below_alloc | apply pw_below_drewN | apply below_drew1) | exact HB.out))) : w.heap.size ≤ gb147)); have n3_ := Aside0.mk ((by rw [hg]; exact (below_size (by repeat (first | (with_reducible first | exact HB.out | apply below_alloc | apply pw_below_drewN | apply below_drew1) | exact HB.out))) : w.heap.size ≤ gb147)); clear HB; have HB := n0_; have BK147 := n1_; have GW147 := n2_; have GE147 := n3_; clear n0_ n1_ n2_ n3_; clear hb hbox hg; have hcz6_0 : w5.cell? ⟨gb147, 0, none⟩ = some (.string a0_0) := (blk_cell BK147.out 0).trans rfl; have hcz6_1 : w5.cell? ⟨gb147, 1, none⟩ = some (.string a0_1) := (blk_cell BK147.out 1).trans rfl; have hcz6_2 : w5.cell? ⟨gb147, 2, none⟩ = some (.slice A0_2 l0_2.length c0_2) := (blk_cell BK147.out 2).trans rfl; have hfz6_0 := blk_frozen BK147.out 0; have hfz6_1 := blk_frozen BK147.out 1; have hfz6_2 := blk_frozen BK147.out 2) | ((with_reducible refine gate_callee (f := 31) rfl ?_); refine goesL_ (some 15) rfl rfl Tryd.func31 (by kernel_rfl) rfl #[.slice A1 l1.length c1, .string a0_0] rfl (by (try simp only [List.map_toArray, List.map_cons, List.map_nil]); first | done | rfl | (simp only [List.length_drop, List.length_take]; rfl)) ?_; (with_reducible refine (spec_Find.calls k _ _ l1 a0_0 t148 t149 _ ?side1 ?side2 A3.out).mono ?_); (case side1 => repeat (first | exact (Kd.C_below HR1.out HB.out) | (with_reducible refine Kd.C_alloc ?_ _) | (with_reducible refine Kd.C_drewN ?_ _) | (with_reducible refine Kd.C_drew ?_))); (case side2 => exact HC1.out); rintro e w' ⟨rfl, ⟨nd, rfl⟩⟩; refine ⟨_, rfl, ?_⟩))
  (try simp only [Act.put, List.setIfInBounds_toArray, List.set_cons_zero, List.set_cons_succ])
  go_cut [20] (fun v20 wc => ∃ (kq : Nat) (x20_3 : Bool), v20 = .bool x20_3 ∧ Aside0 (spec_NeedMatch.j0 kq t148 t149 a0_1 x20_3 a0_0 a0_1 l0_2 = some r) ∧ Aside0 (kq ≤ k) ∧ Aside0 (wc.heap[gb147]? = some (.cells #[.string a0_0, .string a0_1, (.slice A0_2 l0_2.length c0_2)] 24 (0, 0))) ∧ Aside0 (Below w.heap.size w wc))
  case first =>
    have H := HC4.out
    clear HC4
    by_cases c7 : a0_1.toList = ([105, 110] : List UInt8)
    · rw [if_pos c7] at H
      have c7b0 : (a0_1.toList == ([105, 110] : List UInt8)) = true := beq_iff_eq.mpr c7
      have c7b1 : (a0_1.toList != ([105, 110] : List UInt8)) = false := bne_eq_false_iff_eq.mpr c7
      clear c7
      (first | rw [c7b0] | (simp only [i64_w, i32_w]; rw [c7b0]) | skip)
      have H' := Aside0.mk H
      clear H
      go_wp2
      go_meet
      case rel => exact ⟨_, ((a0_1.toList == ([105, 110] : List UInt8))), (by first | rfl | (simp; done) | (simp [*]; done)), H', ⟨by first | omega | exact Nat.le_refl _⟩, ⟨by (with_reducible repeat (first | refine blk_drewN ?_ _ | refine blk_drew ?_ | refine blk_alloc ?_ _)); exact BK147.out⟩, ⟨by repeat (first | (with_reducible first | exact HB.out | apply below_alloc | apply pw_below_drewN | apply below_drew1 | refine below_set ?_ GE147.out) | exact HB.out)⟩⟩
    · rw [if_neg c7] at H
      have c7b0 : (a0_1.toList == ([105, 110] : List UInt8)) = false := beq_eq_false_iff_ne.mpr c7
      have c7b1 : (a0_1.toList != ([105, 110] : List UInt8)) = true := bne_iff_ne.mpr c7
      (first | rw [c7b0] | (simp only [i64_w, i32_w]; rw [c7b0]) | skip)
      by_cases c8 : a0_1.toList = ([61] : List UInt8)
      · rw [if_pos c8] at H
        have c8b0 : (a0_1.toList == ([61] : List UInt8)) = true := beq_iff_eq.mpr c8
        have c8b1 : (a0_1.toList != ([61] : List UInt8)) = false := bne_eq_false_iff_eq.mpr c8
        clear c8
        have H' := Aside0.mk H
        clear H
        go_wp2
        go_meet
        case rel => exact ⟨_, ((a0_1.toList == ([61] : List UInt8))), (by first | rfl | (simp; done) | (simp [*]; done)), H', ⟨by first | omega | exact Nat.le_refl _⟩, ⟨by (with_reducible repeat (first | refine blk_drewN ?_ _ | refine blk_drew ?_ | refine blk_alloc ?_ _)); exact BK147.out⟩, ⟨by repeat (first | (with_reducible first | exact HB.out | apply below_alloc | apply pw_below_drewN | apply below_drew1 | refine below_set ?_ GE147.out) | exact HB.out)⟩⟩
      · rw [if_neg c8] at H
        have c8b0 : (a0_1.toList == ([61] : List UInt8)) = false := beq_eq_false_iff_ne.mpr c8
        have c8b1 : (a0_1.toList != ([61] : List UInt8)) = true := bne_iff_ne.mpr c8
        have H' := Aside0.mk H
        clear H
        go_wp2
        go_meet
        case rel => exact ⟨_, ((a0_1.toList == ([61, 61] : List UInt8))), (by first | rfl | (simp; done) | (simp [*]; done)), H', ⟨by first | omega | exact Nat.le_refl _⟩, ⟨by (with_reducible repeat (first | refine blk_drewN ?_ _ | refine blk_drew ?_ | refine blk_alloc ?_ _)); exact BK147.out⟩, ⟨by repeat (first | (with_reducible first | exact HB.out | apply below_alloc | apply pw_below_drewN | apply below_drew1 | refine below_set ?_ GE147.out) | exact HB.out)⟩⟩
  case rest =>
    clear HC4
    try clear c1
    try clear p2
    try clear c3
    try clear c7
    try clear c7b0
    try clear c7b1
    try clear c8
    try clear c8b0
    try clear c8b1
    try clear hcz6_0
    try clear hcz6_1
    try clear hcz6_2
    try clear hfz6_0
    try clear hfz6_1
    try clear hfz6_2
    obtain ⟨kq, x20_3, rfl, HA, HJ3, BK147, HB⟩ := hcut
    cases kq with
    | zero => exact absurd HA.out (by simp [spec_NeedMatch.j0])
    | succ kj3 =>
      have H := HA.out
      clear HA
      simp only [spec_NeedMatch.j0] at H
      by_cases c9 : x20_3 = true
      · subst c9
        have H1 : (if t149 = true then ((spec_keyIn_string.f kj3 l0_2 t148).bind fun t150 => (some t150)) else (some false)) = some r := by rw [if_pos rfl] at H; exact H
        clear H
        have H := H1
        clear H1
        by_cases c10 : t149 = true
        · subst c10
          have H1 : ((spec_keyIn_string.f kj3 l0_2 t148).bind fun t150 => (some t150)) = some r := by rw [if_pos rfl] at H; exact H
          clear H
          have H := H1
          clear H1
          replace H := Option.bind_eq_some_iff.mp H
          obtain ⟨t150, A110, H⟩ := H
          replace H : (some t150) = some r := H
          have A11 := Aside0.mk A110
          clear A110
          obtain rfl := Option.some.inj H
          have hcz12_0 : wc.cell? ⟨gb147, 0, none⟩ = some (.string a0_0) := (blk_cell BK147.out 0).trans rfl
          have hcz12_1 : wc.cell? ⟨gb147, 1, none⟩ = some (.string a0_1) := (blk_cell BK147.out 1).trans rfl
          have hcz12_2 : wc.cell? ⟨gb147, 2, none⟩ = some (.slice A0_2 l0_2.length c0_2) := (blk_cell BK147.out 2).trans rfl
          have hfz12_0 := blk_frozen BK147.out 0
          have hfz12_1 := blk_frozen BK147.out 1
          have hfz12_2 := blk_frozen BK147.out 2
          go_wp2_with (first | (go_at_call 24; (with_reducible refine (spec_keyIn_string.calls kj3 _ _ l0_2 t148 t150 _ ?side1 ?side2 A11.out).mono ?_); (case side1 => repeat (first | exact (Kd.C_below HR0_2.out HB.out) | (with_reducible refine Kd.C_alloc ?_ _) | (with_reducible refine Kd.C_drewN ?_ _) | (with_reducible refine Kd.C_drew ?_))); (case side2 => exact HC0_2.out); rintro e w' ⟨rfl, ⟨nd, rfl⟩⟩))
          go_ret
          exact ⟨by first | rfl | (simp [errW_none, errW_some] <;> rfl) | (simp [*, errW_none, errW_some] <;> rfl) | (exfalso; contradiction), by repeat (first | (with_reducible first | exact HB.out | apply below_alloc | apply pw_below_drewN | apply below_drew1 | refine below_set ?_ GE147.out) | exact HB.out)⟩
        · replace c10 := Bool.eq_false_iff.mpr c10
          subst c10
          have H1 : (some false) = some r := by rw [if_neg (show ¬ (false = true) by decide)] at H; exact H
          clear H
          have H := H1
          clear H1
          obtain rfl := Option.some.inj H
          go_wp2
          go_ret
          exact ⟨by first | rfl | (simp [errW_none, errW_some] <;> rfl) | (simp [*, errW_none, errW_some] <;> rfl) | (exfalso; contradiction), by repeat (first | (with_reducible first | exact HB.out | apply below_alloc | apply pw_below_drewN | apply below_drew1 | refine below_set ?_ GE147.out) | exact HB.out)⟩
      · replace c9 := Bool.eq_false_iff.mpr c9
        subst c9
        have H1 : (if a0_1.toList = ([110, 111, 116, 105, 110] : List UInt8) then (spec_NeedMatch.j1 kj3 t148 t149 a0_1 (a0_1.toList == ([110, 111, 116, 105, 110] : List UInt8)) a0_0 a0_1 l0_2) else (spec_NeedMatch.j1 kj3 t148 t149 a0_1 (a0_1.toList == ([33, 61] : List UInt8)) a0_0 a0_1 l0_2)) = some r := by rw [if_neg (show ¬ (false = true) by decide)] at H; exact H
        clear H
        have H := H1
        clear H1
        have HC13 := Aside0.mk H
        clear H
        go_upto_if 31 with (fail)
        go_cut [31] (fun v31 wc => ∃ (kq : Nat) (x31_12 : Bool), v31 = .bool x31_12 ∧ Aside0 (spec_NeedMatch.j1 kq t148 t149 a0_1 x31_12 a0_0 a0_1 l0_2 = some r) ∧ Aside0 (kq ≤ kj3) ∧ Aside0 (wc.heap[gb147]? = some (.cells #[.string a0_0, .string a0_1, (.slice A0_2 l0_2.length c0_2)] 24 (0, 0))) ∧ Aside0 (Below w.heap.size w wc))
        case first =>
          have H := HC13.out
          clear HC13
          by_cases c14 : a0_1.toList = ([110, 111, 116, 105, 110] : List UInt8)
          · rw [if_pos c14] at H
            have c14b0 : (a0_1.toList == ([110, 111, 116, 105, 110] : List UInt8)) = true := beq_iff_eq.mpr c14
            have c14b1 : (a0_1.toList != ([110, 111, 116, 105, 110] : List UInt8)) = false := bne_eq_false_iff_eq.mpr c14
            clear c14
            (first | rw [c14b0] | (simp only [i64_w, i32_w]; rw [c14b0]) | skip)
            have H' := Aside0.mk H
            clear H
            go_wp2
            go_meet
            case rel => exact ⟨_, ((a0_1.toList == ([110, 111, 116, 105, 110] : List UInt8))), (by first | rfl | (simp; done) | (simp [*]; done)), H', ⟨by have := HJ3.out; first | omega | exact Nat.le_refl _⟩, ⟨by (with_reducible repeat (first | refine blk_drewN ?_ _ | refine blk_drew ?_ | refine blk_alloc ?_ _)); exact BK147.out⟩, ⟨by repeat (first | (with_reducible first | exact HB.out | apply below_alloc | apply pw_below_drewN | apply below_drew1 | refine below_set ?_ GE147.out) | exact HB.out)⟩⟩
          · rw [if_neg c14] at H
            have c14b0 : (a0_1.toList == ([110, 111, 116, 105, 110] : List UInt8)) = false := beq_eq_false_iff_ne.mpr c14
            have c14b1 : (a0_1.toList != ([110, 111, 116, 105, 110] : List UInt8)) = true := bne_iff_ne.mpr c14
            (first | rw [c14b0] | (simp only [i64_w, i32_w]; rw [c14b0]) | skip)
            have H' := Aside0.mk H
            clear H
            go_wp2
            go_meet
            case rel => exact ⟨_, ((a0_1.toList == ([33, 61] : List UInt8))), (by first | rfl | (simp; done) | (simp [*]; done)), H', ⟨by have := HJ3.out; first | omega | exact Nat.le_refl _⟩, ⟨by (with_reducible repeat (first | refine blk_drewN ?_ _ | refine blk_drew ?_ | refine blk_alloc ?_ _)); exact BK147.out⟩, ⟨by repeat (first | (with_reducible first | exact HB.out | apply below_alloc | apply pw_below_drewN | apply below_drew1 | refine below_set ?_ GE147.out) | exact HB.out)⟩⟩
        case rest =>
          clear HC13
          try clear c1
          try clear p2
          try clear c3
          try clear c7
          try clear c7b0
          try clear c7b1
          try clear c8
          try clear c8b0
          try clear c8b1
          try clear c9
          try clear c10
          try clear c13
          try clear c14
          try clear c14b0
          try clear c14b1
          try clear hcz12_0
          try clear hcz12_1
          try clear hcz12_2
          try clear hcz6_0
          try clear hcz6_1
          try clear hcz6_2
          try clear hfz12_0
          try clear hfz12_1
          try clear hfz12_2
          try clear hfz6_0
          try clear hfz6_1
          try clear hfz6_2
          try clear p2
          obtain ⟨kq, x31_12, rfl, HA, HJ12, BK147, HB⟩ := hcut
          cases kq with
          | zero => exact absurd HA.out (by simp [spec_NeedMatch.j1])
          | succ kj12 =>
            have H := HA.out
            clear HA
            simp only [spec_NeedMatch.j1] at H
            by_cases c15 : x31_12 = true
            · subst c15
              have H1 : (if t149 = true then ((spec_keyIn_string.f kj12 l0_2 t148).bind fun t151 => (some (!t151))) else (some true)) = some r := by rw [if_pos rfl] at H; exact H
              clear H
              have H := H1
              clear H1
              by_cases c16 : t149 = true
              · subst c16
                have H1 : ((spec_keyIn_string.f kj12 l0_2 t148).bind fun t151 => (some (!t151))) = some r := by rw [if_pos rfl] at H; exact H
                clear H
                have H := H1
                clear H1
                replace H := Option.bind_eq_some_iff.mp H
                obtain ⟨t151, A170, H⟩ := H
                replace H : (some (!t151)) = some r := H
                have A17 := Aside0.mk A170
                clear A170
                obtain rfl := Option.some.inj H
                have hcz18_0 : wc.cell? ⟨gb147, 0, none⟩ = some (.string a0_0) := (blk_cell BK147.out 0).trans rfl
                have hcz18_1 : wc.cell? ⟨gb147, 1, none⟩ = some (.string a0_1) := (blk_cell BK147.out 1).trans rfl
                have hcz18_2 : wc.cell? ⟨gb147, 2, none⟩ = some (.slice A0_2 l0_2.length c0_2) := (blk_cell BK147.out 2).trans rfl
                have hfz18_0 := blk_frozen BK147.out 0
                have hfz18_1 := blk_frozen BK147.out 1
                have hfz18_2 := blk_frozen BK147.out 2
                go_wp2_with (first | (go_at_call 24; (with_reducible refine (spec_keyIn_string.calls kj12 _ _ l0_2 t148 t151 _ ?side1 ?side2 A17.out).mono ?_); (case side1 => repeat (first | exact (Kd.C_below HR0_2.out HB.out) | (with_reducible refine Kd.C_alloc ?_ _) | (with_reducible refine Kd.C_drewN ?_ _) | (with_reducible refine Kd.C_drew ?_))); (case side2 => exact HC0_2.out); rintro e w' ⟨rfl, ⟨nd, rfl⟩⟩))
                go_ret
                exact ⟨by first | rfl | (simp [errW_none, errW_some] <;> rfl) | (simp [*, errW_none, errW_some] <;> rfl) | (exfalso; contradiction), by repeat (first | (with_reducible first | exact HB.out | apply below_alloc | apply pw_below_drewN | apply below_drew1 | refine below_set ?_ GE147.out) | exact HB.out)⟩
              · replace c16 := Bool.eq_false_iff.mpr c16
                subst c16
                have H1 : (some true) = some r := by rw [if_neg (show ¬ (false = true) by decide)] at H; exact H
                clear H
                have H := H1
                clear H1
                obtain rfl := Option.some.inj H
                go_wp2
                go_ret
                exact ⟨by first | rfl | (simp [errW_none, errW_some] <;> rfl) | (simp [*, errW_none, errW_some] <;> rfl) | (exfalso; contradiction), by repeat (first | (with_reducible first | exact HB.out | apply below_alloc | apply pw_below_drewN | apply below_drew1 | refine below_set ?_ GE147.out) | exact HB.out)⟩
            · replace c15 := Bool.eq_false_iff.mpr c15
              subst c15
              have H1 : (if a0_1.toList = ([101, 120, 105, 115, 116, 115] : List UInt8) then (some t149) else (if a0_1.toList = ([33] : List UInt8) then (some (!t149)) else ((spec_NeedNumber.f t148).bind fun bt152 => (if t149 = true then (spec_NeedMatch.j2 kj12 bt152.1 (!bt152.2) a0_0 a0_1 l0_2) else (spec_NeedMatch.j2 kj12 bt152.1 true a0_0 a0_1 l0_2))))) = some r := by rw [if_neg (show ¬ (false = true) by decide)] at H; exact H
              clear H
              have H := H1
              clear H1
              by_cases c19 : a0_1.toList = ([101, 120, 105, 115, 116, 115] : List UInt8)
              · rw [if_pos c19] at H
                have c19b0 : (a0_1.toList == ([101, 120, 105, 115, 116, 115] : List UInt8)) = true := beq_iff_eq.mpr c19
                have c19b1 : (a0_1.toList != ([101, 120, 105, 115, 116, 115] : List UInt8)) = false := bne_eq_false_iff_eq.mpr c19
                clear c19
                obtain rfl := Option.some.inj H
                go_wp2
                go_ret
                exact ⟨by first | rfl | (simp [errW_none, errW_some] <;> rfl) | (simp [*, errW_none, errW_some] <;> rfl) | (exfalso; contradiction), by repeat (first | (with_reducible first | exact HB.out | apply below_alloc | apply pw_below_drewN | apply below_drew1 | refine below_set ?_ GE147.out) | exact HB.out)⟩
              · rw [if_neg c19] at H
                have c19b0 : (a0_1.toList == ([101, 120, 105, 115, 116, 115] : List UInt8)) = false := beq_eq_false_iff_ne.mpr c19
                have c19b1 : (a0_1.toList != ([101, 120, 105, 115, 116, 115] : List UInt8)) = true := bne_iff_ne.mpr c19
                by_cases c20 : a0_1.toList = ([33] : List UInt8)
                · rw [if_pos c20] at H
                  have c20b0 : (a0_1.toList == ([33] : List UInt8)) = true := beq_iff_eq.mpr c20
                  have c20b1 : (a0_1.toList != ([33] : List UInt8)) = false := bne_eq_false_iff_eq.mpr c20
                  clear c20
                  obtain rfl := Option.some.inj H
                  go_wp2
                  go_ret
                  exact ⟨by first | rfl | (simp [errW_none, errW_some] <;> rfl) | (simp [*, errW_none, errW_some] <;> rfl) | (exfalso; contradiction), by repeat (first | (with_reducible first | exact HB.out | apply below_alloc | apply pw_below_drewN | apply below_drew1 | refine below_set ?_ GE147.out) | exact HB.out)⟩
                · rw [if_neg c20] at H
                  have c20b0 : (a0_1.toList == ([33] : List UInt8)) = false := beq_eq_false_iff_ne.mpr c20
                  have c20b1 : (a0_1.toList != ([33] : List UInt8)) = true := bne_iff_ne.mpr c20
                  replace H := Option.bind_eq_some_iff.mp H
                  obtain ⟨⟨t152, t153⟩, A210, H⟩ := H
                  replace H : (if t149 = true then (spec_NeedMatch.j2 kj12 t152 (!t153) a0_0 a0_1 l0_2) else (spec_NeedMatch.j2 kj12 t152 true a0_0 a0_1 l0_2)) = some r := H
                  have A21 := Aside0.mk A210
                  clear A210
                  have HC22 := Aside0.mk H
                  clear H
                  go_upto_region 15 with (first | ((with_reducible refine gate_callee (f := 32) rfl ?_); refine goesL_ (some 52) rfl rfl Tryd.func32 (by kernel_rfl) rfl #[.string t148] rfl (by (try simp only [List.map_toArray, List.map_cons, List.map_nil]); first | done | rfl | (simp only [List.length_drop, List.length_take]; rfl)) ?_; (with_reducible refine (spec_NeedNumber.calls t148 t152 t153 _ A21.out).mono ?_); rintro e w23 ⟨rfl, hb⟩; refine ⟨_, rfl, ?_⟩; have n0_ := Aside0.mk (blk_below (g := gb147) (o := .cells #[.string a0_0, .string a0_1, .slice A0_2 l0_2.length c0_2] 24 (0, 0)) (by (with_reducible repeat (first | refine blk_drewN ?_ _ | refine blk_drew ?_ | refine blk_alloc ?_ _)); exact BK147.out) hb); have n1_ := Aside0.mk (below_step (by repeat (first | (with_reducible first | exact HB.out | apply below_alloc | apply pw_below_drewN | apply below_drew1 | refine below_set ?_ GE147.out) | exact HB.out)) hb); clear BK147; clear HB; have BK147 := n0_; have HB := n1_; clear n0_ n1_; (try clear hb); (try clear hb2); (try clear hk); (try clear hi)))
                  (try simp only [Act.put, List.setIfInBounds_toArray, List.set_cons_zero, List.set_cons_succ])
                  go_cut [60] (fun v60 wc => ∃ (kq : Nat) (x60_21 : Bool), v60 = .bool x60_21 ∧ Aside0 (spec_NeedMatch.j2 kq t152 x60_21 a0_0 a0_1 l0_2 = some r) ∧ Aside0 (kq ≤ kj12) ∧ Aside0 (wc.heap[gb147]? = some (.cells #[.string a0_0, .string a0_1, (.slice A0_2 l0_2.length c0_2)] 24 (0, 0))) ∧ Aside0 (Below w.heap.size w wc))
                  case first =>
                    have H := HC22.out
                    clear HC22
                    by_cases c24 : t149 = true
                    · subst c24
                      have H1 : (spec_NeedMatch.j2 kj12 t152 (!t153) a0_0 a0_1 l0_2) = some r := by rw [if_pos rfl] at H; exact H
                      clear H
                      have H := H1
                      clear H1
                      have H' := Aside0.mk H
                      clear H
                      go_wp2
                      go_meet
                      case rel => exact ⟨_, (!t153), (by first | rfl | (simp; done) | (simp [*]; done)), H', ⟨by have := HJ3.out; have := HJ12.out; first | omega | exact Nat.le_refl _⟩, ⟨by (with_reducible repeat (first | refine blk_drewN ?_ _ | refine blk_drew ?_ | refine blk_alloc ?_ _)); exact BK147.out⟩, ⟨by repeat (first | (with_reducible first | exact HB.out | apply below_alloc | apply pw_below_drewN | apply below_drew1 | refine below_set ?_ GE147.out) | exact HB.out)⟩⟩
                    · replace c24 := Bool.eq_false_iff.mpr c24
                      subst c24
                      have H1 : (spec_NeedMatch.j2 kj12 t152 true a0_0 a0_1 l0_2) = some r := by rw [if_neg (show ¬ (false = true) by decide)] at H; exact H
                      clear H
                      have H := H1
                      clear H1
                      have H' := Aside0.mk H
                      clear H
                      go_wp2
                      go_meet
                      case rel => exact ⟨_, (true), (by first | rfl | (simp; done) | (simp [*]; done)), H', ⟨by have := HJ3.out; have := HJ12.out; first | omega | exact Nat.le_refl _⟩, ⟨by (with_reducible repeat (first | refine blk_drewN ?_ _ | refine blk_drew ?_ | refine blk_alloc ?_ _)); exact BK147.out⟩, ⟨by repeat (first | (with_reducible first | exact HB.out | apply below_alloc | apply pw_below_drewN | apply below_drew1 | refine below_set ?_ GE147.out) | exact HB.out)⟩⟩
                  case rest =>
                    clear HC22
                    try clear c1
                    try clear c2
                    try clear p2
                    try clear c3
                    try clear c7
                    try clear c7b0
                    try clear c7b1
                    try clear c8
                    try clear c8b0
                    try clear c8b1
                    try clear c9
                    try clear c10
                    try clear c13
                    try clear c14
                    try clear c14b0
                    try clear c14b1
                    try clear c15
                    try clear c16
                    try clear c19
                    try clear c19b0
                    try clear c19b1
                    try clear c20
                    try clear c20b0
                    try clear c20b1
                    try clear c24
                    try clear hcz12_0
                    try clear hcz12_1
                    try clear hcz12_2
                    try clear hcz18_0
                    try clear hcz18_1
                    try clear hcz18_2
                    try clear hcz6_0
                    try clear hcz6_1
                    try clear hcz6_2
                    try clear hfz12_0
                    try clear hfz12_1
                    try clear hfz12_2
                    try clear hfz18_0
                    try clear hfz18_1
                    try clear hfz18_2
                    try clear hfz6_0
                    try clear hfz6_1
                    try clear hfz6_2
                    try clear p2
                    obtain ⟨kq, x60_21, rfl, HA, HJ21, BK147, HB⟩ := hcut
                    cases kq with
                    | zero => exact absurd HA.out (by simp [spec_NeedMatch.j2])
                    | succ kj21 =>
                      have H := HA.out
                      clear HA
                      simp only [spec_NeedMatch.j2] at H
                      by_cases c25 : x60_21 = true
                      · subst c25
                        have H1 : (some false) = some r := by rw [if_pos rfl] at H; exact H
                        clear H
                        have H := H1
                        clear H1
                        obtain rfl := Option.some.inj H
                        go_wp2
                        go_ret
                        exact ⟨by first | rfl | (simp [errW_none, errW_some] <;> rfl) | (simp [*, errW_none, errW_some] <;> rfl) | (exfalso; contradiction), by repeat (first | (with_reducible first | exact HB.out | apply below_alloc | apply pw_below_drewN | apply below_drew1 | refine below_set ?_ GE147.out) | exact HB.out)⟩
                      · replace c25 := Bool.eq_false_iff.mpr c25
                        subst c25
                        have H1 : (if 0 < (l0_2.length : Int) then ((spec_NeedNumber.f (rdOf ByteArray.empty l0_2 0)).bind fun bt155 => (if a0_1.toList = ([103, 116] : List UInt8) then (some (decide (t152 > bt155.1))) else (some (decide (t152 < bt155.1))))) else (none)) = some r := by rw [if_neg (show ¬ (false = true) by decide)] at H; exact H
                        clear H
                        have H := H1
                        clear H1
                        by_cases c26 : 0 < (l0_2.length : Int)
                        · rw [if_pos c26] at H
                          have c26b0 : decide (0 < (l0_2.length : Int)) = true := decide_eq_true c26
                          have c26b1 : decide (0 < l0_2.length) = true := decide_eq_true (by omega)
                          clear c26
                          replace H := Option.bind_eq_some_iff.mp H
                          obtain ⟨⟨t155, t156⟩, A270, H⟩ := H
                          replace H : (if a0_1.toList = ([103, 116] : List UInt8) then (some (decide (t152 > t155))) else (some (decide (t152 < t155)))) = some r := H
                          have A27 := Aside0.mk A270
                          clear A270
                          by_cases c28 : a0_1.toList = ([103, 116] : List UInt8)
                          · rw [if_pos c28] at H
                            have c28b0 : (a0_1.toList == ([103, 116] : List UInt8)) = true := beq_iff_eq.mpr c28
                            have c28b1 : (a0_1.toList != ([103, 116] : List UInt8)) = false := bne_eq_false_iff_eq.mpr c28
                            clear c28
                            obtain rfl := Option.some.inj H
                            have hcz29_0 : wc.cell? ⟨gb147, 0, none⟩ = some (.string a0_0) := (blk_cell BK147.out 0).trans rfl
                            have hcz29_1 : wc.cell? ⟨gb147, 1, none⟩ = some (.string a0_1) := (blk_cell BK147.out 1).trans rfl
                            have hcz29_2 : wc.cell? ⟨gb147, 2, none⟩ = some (.slice A0_2 l0_2.length c0_2) := (blk_cell BK147.out 2).trans rfl
                            have hfz29_0 := blk_frozen BK147.out 0
                            have hfz29_1 := blk_frozen BK147.out 1
                            have hfz29_2 := blk_frozen BK147.out 2
                            have p154 : 0 ≤ (0 : Int) := (by omega)
                            have q154 : 0 < (l0_2.length : Int) := of_decide_eq_true (by first | (with_reducible assumption) | assumption)
                            obtain ⟨ad154, e154, hx154_0⟩ := Kd.at_string HR0_2.out 0 p154 q154
                            cases e154
                            have qi154 : (0 < l0_2.length) = True := eq_true (by omega)
                            (try rw [show ((0 : Int)).toNat = 0 from rfl] at hx154_0)
                            (try rw [Addr.add_zero'] at hx154_0)
                            replace hx154_0 := (HB.out.cell (World.block_lt_of_cell? w _ hx154_0)).trans hx154_0
                            replace p154 := eq_true p154
                            replace q154 := eq_true q154
                            go_wp2_with (first | ((with_reducible refine gate_callee (f := 32) rfl ?_); refine goesL_ (some 66) rfl rfl Tryd.func32 (by kernel_rfl) rfl #[.string (rdOf ByteArray.empty l0_2 0)] rfl (by (try simp only [List.map_toArray, List.map_cons, List.map_nil]); first | done | rfl | (simp only [List.length_drop, List.length_take]; rfl)) ?_; (with_reducible refine (spec_NeedNumber.calls (rdOf ByteArray.empty l0_2 0) t155 t156 _ A27.out).mono ?_); rintro e w30 ⟨rfl, hb⟩; refine ⟨_, rfl, ?_⟩; have n0_ := Aside0.mk (blk_below (g := gb147) (o := .cells #[.string a0_0, .string a0_1, .slice (some ad154) l0_2.length c0_2] 24 (0, 0)) (by (with_reducible repeat (first | refine blk_drewN ?_ _ | refine blk_drew ?_ | refine blk_alloc ?_ _)); exact BK147.out) hb); have n1_ := Aside0.mk (below_step (by repeat (first | (with_reducible first | exact HB.out | apply below_alloc | apply pw_below_drewN | apply below_drew1 | refine below_set ?_ GE147.out) | exact HB.out)) hb); clear BK147; clear HB; have BK147 := n0_; have HB := n1_; clear n0_ n1_; (try clear hb); (try clear hb2); (try clear hk); (try clear hi); have hcz31_0 : w30.cell? ⟨gb147, 0, none⟩ = some (.string a0_0) := (blk_cell BK147.out 0).trans rfl; have hcz31_1 : w30.cell? ⟨gb147, 1, none⟩ = some (.string a0_1) := (blk_cell BK147.out 1).trans rfl; have hcz31_2 : w30.cell? ⟨gb147, 2, none⟩ = some (.slice (some ad154) l0_2.length c0_2) := (blk_cell BK147.out 2).trans rfl; have hfz31_0 := blk_frozen BK147.out 0; have hfz31_1 := blk_frozen BK147.out 1; have hfz31_2 := blk_frozen BK147.out 2))
                            go_ret
                            exact ⟨by first | rfl | (simp [errW_none, errW_some] <;> rfl) | (simp [*, errW_none, errW_some] <;> rfl) | (exfalso; contradiction), by repeat (first | (with_reducible first | exact HB.out | apply below_alloc | apply pw_below_drewN | apply below_drew1 | refine below_set ?_ GE147.out) | exact HB.out)⟩
                          · rw [if_neg c28] at H
                            have c28b0 : (a0_1.toList == ([103, 116] : List UInt8)) = false := beq_eq_false_iff_ne.mpr c28
                            have c28b1 : (a0_1.toList != ([103, 116] : List UInt8)) = true := bne_iff_ne.mpr c28
                            obtain rfl := Option.some.inj H
                            have hcz32_0 : wc.cell? ⟨gb147, 0, none⟩ = some (.string a0_0) := (blk_cell BK147.out 0).trans rfl
                            have hcz32_1 : wc.cell? ⟨gb147, 1, none⟩ = some (.string a0_1) := (blk_cell BK147.out 1).trans rfl
                            have hcz32_2 : wc.cell? ⟨gb147, 2, none⟩ = some (.slice A0_2 l0_2.length c0_2) := (blk_cell BK147.out 2).trans rfl
                            have hfz32_0 := blk_frozen BK147.out 0
                            have hfz32_1 := blk_frozen BK147.out 1
                            have hfz32_2 := blk_frozen BK147.out 2
                            have p154 : 0 ≤ (0 : Int) := (by omega)
                            have q154 : 0 < (l0_2.length : Int) := of_decide_eq_true (by first | (with_reducible assumption) | assumption)
                            obtain ⟨ad154, e154, hx154_0⟩ := Kd.at_string HR0_2.out 0 p154 q154
                            cases e154
                            have qi154 : (0 < l0_2.length) = True := eq_true (by omega)
                            (try rw [show ((0 : Int)).toNat = 0 from rfl] at hx154_0)
                            (try rw [Addr.add_zero'] at hx154_0)
                            replace hx154_0 := (HB.out.cell (World.block_lt_of_cell? w _ hx154_0)).trans hx154_0
                            replace p154 := eq_true p154
                            replace q154 := eq_true q154
                            go_wp2_with (first | ((with_reducible refine gate_callee (f := 32) rfl ?_); refine goesL_ (some 66) rfl rfl Tryd.func32 (by kernel_rfl) rfl #[.string (rdOf ByteArray.empty l0_2 0)] rfl (by (try simp only [List.map_toArray, List.map_cons, List.map_nil]); first | done | rfl | (simp only [List.length_drop, List.length_take]; rfl)) ?_; (with_reducible refine (spec_NeedNumber.calls (rdOf ByteArray.empty l0_2 0) t155 t156 _ A27.out).mono ?_); rintro e w33 ⟨rfl, hb⟩; refine ⟨_, rfl, ?_⟩; have n0_ := Aside0.mk (blk_below (g := gb147) (o := .cells #[.string a0_0, .string a0_1, .slice (some ad154) l0_2.length c0_2] 24 (0, 0)) (by (with_reducible repeat (first | refine blk_drewN ?_ _ | refine blk_drew ?_ | refine blk_alloc ?_ _)); exact BK147.out) hb); have n1_ := Aside0.mk (below_step (by repeat (first | (with_reducible first | exact HB.out | apply below_alloc | apply pw_below_drewN | apply below_drew1 | refine below_set ?_ GE147.out) | exact HB.out)) hb); clear BK147; clear HB; have BK147 := n0_; have HB := n1_; clear n0_ n1_; (try clear hb); (try clear hb2); (try clear hk); (try clear hi); have hcz34_0 : w33.cell? ⟨gb147, 0, none⟩ = some (.string a0_0) := (blk_cell BK147.out 0).trans rfl; have hcz34_1 : w33.cell? ⟨gb147, 1, none⟩ = some (.string a0_1) := (blk_cell BK147.out 1).trans rfl; have hcz34_2 : w33.cell? ⟨gb147, 2, none⟩ = some (.slice (some ad154) l0_2.length c0_2) := (blk_cell BK147.out 2).trans rfl; have hfz34_0 := blk_frozen BK147.out 0; have hfz34_1 := blk_frozen BK147.out 1; have hfz34_2 := blk_frozen BK147.out 2))
                            go_ret
                            exact ⟨by first | rfl | (simp [errW_none, errW_some] <;> rfl) | (simp [*, errW_none, errW_some] <;> rfl) | (exfalso; contradiction), by repeat (first | (with_reducible first | exact HB.out | apply below_alloc | apply pw_below_drewN | apply below_drew1 | refine below_set ?_ GE147.out) | exact HB.out)⟩
                        · rw [if_neg c26] at H
                          exact absurd H (by simp)

-- NOT PRINTED: function 4 (laws_FnNeedMatch)

end Go.Proofs.YtlhbmifffmegeaaDoor.PFnNeedMatch
