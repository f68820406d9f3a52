/- Versions: copies with a part set, and steps of the minor number: the methods walked. -/
import Derived.Test.YtomoefldmgfaoaaDoorPvU
set_option linter.unusedVariables false
set_option linter.unusedSimpArgs false
namespace Go.Proofs.YtomoefldmgfaoaaDoor.Pv
open Go Go.RowKit Go.Proofs.YtomoefldmgfaoaaDoor Go.Proofs.YtomoefldmgfaoaaDoorW.PrintWords Go.Proofs.YtomoefldmgfaoaaDoor.PvH Go.Proofs.YtomoefldmgfaoaaDoor.Txt Go.Proofs.YtomoefldmgfaoaaDoor.Small

/-- A pointer to a version of its own. -/
def Made (w w' : World) (e : Ending) (ns : List Nat) (sem : Bool) (p b : ByteArray) : Prop := ∃ g c, e = .returned (.pointer (some ⟨g, 0, none⟩)) ∧ IsVer w' g c ns sem p b ∧ w.heap.size ≤ g ∧ w.heap.size ≤ c
abbrev zeroV : Obj := .cells #[.slice none 0 0, .bool false, .string ⟨#[]⟩, .string ⟨#[]⟩] 90 (0, 0)
set_option maxHeartbeats 3200000 in
set_option maxRecDepth 100000 in
theorem withMajor_calls (g c : Nat) (ns : List Nat) (sem : Bool) (p b : ByteArray) (h2 : 2 ≤ ns.length) (u : Nat) (w : World) (hv : IsVer w g c ns sem p b) :
    Calls Tryd.prog 43 #[.pointer (some ⟨g, 0, none⟩), .int .u64 (u : Int)] w fun e w' => Made w w' e [u, pt ns 1, pt ns 2] sem (p) (b) ∧ Below w.heap.size w w' := by
  have hu1 := Tryd.underlying90
  have HV := Aside0.mk hv
  have H2 := Aside0.mk h2
  have hgl : g < w.heap.size := blk_lt hv.1
  have k0 : w.cell? ⟨g, 0, none⟩ = some (.slice (some ⟨c, 0, none⟩) ns.length ns.length) := blk_cell hv.1 0
  have k1 : w.cell? ⟨g, 1, none⟩ = some (.bool sem) := blk_cell hv.1 1
  have k2 : w.cell? ⟨g, 2, none⟩ = some (.string p) := blk_cell hv.1 2
  have k3 : w.cell? ⟨g, 3, none⟩ = some (.string b) := blk_cell hv.1 3
  clear hv h2
  go_enter Tryd.func43, Tryd.ntmps43
  go_wp2_with (first | (go_at_call 64; (with_reducible refine (minor_calls g c ns sem p b _ (HV.out.below (by repeat (first | (with_reducible exact Below.refl _ _) | apply below_alloc | refine below_set ?_ (Nat.le_refl _) | apply pw_below_drewN | apply below_drew1))) H2.out).mono ?_); rintro e w0 ⟨rfl, rfl⟩) | (go_at_call 65; (with_reducible refine (patch_calls g c ns sem p b _ (HV.out.below (by repeat (first | (with_reducible exact Below.refl _ _) | apply below_alloc | refine below_set ?_ (Nat.le_refl _) | apply pw_below_drewN | apply below_drew1)))).mono ?_); rintro e w0 ⟨rfl, rfl⟩))
  go_ret
  refine ⟨⟨w.heap.size, w.heap.size + 1, rfl, ⟨?_, ?_⟩, Nat.le_refl _, Nat.le_succ _⟩, ?_⟩
  · exact blk_alloc (blk_new w _) _
  · exact new2 w _ _
  · repeat (first | (with_reducible exact Below.refl _ _) | apply below_alloc | refine below_set ?_ (Nat.le_refl _) | apply pw_below_drewN | apply below_drew1)
set_option maxHeartbeats 3200000 in
set_option maxRecDepth 100000 in
theorem withMinor_calls (g c : Nat) (ns : List Nat) (sem : Bool) (p b : ByteArray) (h2 : 2 ≤ ns.length) (u : Nat) (w : World) (hv : IsVer w g c ns sem p b) :
    Calls Tryd.prog 44 #[.pointer (some ⟨g, 0, none⟩), .int .u64 (u : Int)] w fun e w' => Made w w' e [pt ns 0, u, pt ns 2] sem (p) (b) ∧ Below w.heap.size w w' := by
  have hu1 := Tryd.underlying90
  have HV := Aside0.mk hv
  have H2 := Aside0.mk h2
  have hgl : g < w.heap.size := blk_lt hv.1
  have k0 : w.cell? ⟨g, 0, none⟩ = some (.slice (some ⟨c, 0, none⟩) ns.length ns.length) := blk_cell hv.1 0
  have k1 : w.cell? ⟨g, 1, none⟩ = some (.bool sem) := blk_cell hv.1 1
  have k2 : w.cell? ⟨g, 2, none⟩ = some (.string p) := blk_cell hv.1 2
  have k3 : w.cell? ⟨g, 3, none⟩ = some (.string b) := blk_cell hv.1 3
  clear hv h2
  go_enter Tryd.func44, Tryd.ntmps44
  go_wp2_with (first | (go_at_call 63; (with_reducible refine (major_calls g c ns sem p b _ (HV.out.below (by repeat (first | (with_reducible exact Below.refl _ _) | apply below_alloc | refine below_set ?_ (Nat.le_refl _) | apply pw_below_drewN | apply below_drew1))) H2.out).mono ?_); rintro e w0 ⟨rfl, rfl⟩) | (go_at_call 65; (with_reducible refine (patch_calls g c ns sem p b _ (HV.out.below (by repeat (first | (with_reducible exact Below.refl _ _) | apply below_alloc | refine below_set ?_ (Nat.le_refl _) | apply pw_below_drewN | apply below_drew1)))).mono ?_); rintro e w0 ⟨rfl, rfl⟩))
  go_ret
  refine ⟨⟨w.heap.size, w.heap.size + 1, rfl, ⟨?_, ?_⟩, Nat.le_refl _, Nat.le_succ _⟩, ?_⟩
  · exact blk_alloc (blk_new w _) _
  · exact new2 w _ _
  · repeat (first | (with_reducible exact Below.refl _ _) | apply below_alloc | refine below_set ?_ (Nat.le_refl _) | apply pw_below_drewN | apply below_drew1)
set_option maxHeartbeats 3200000 in
set_option maxRecDepth 100000 in
theorem withPatch_calls (g c : Nat) (ns : List Nat) (sem : Bool) (p b : ByteArray) (h2 : 2 ≤ ns.length) (u : Nat) (w : World) (hv : IsVer w g c ns sem p b) :
    Calls Tryd.prog 45 #[.pointer (some ⟨g, 0, none⟩), .int .u64 (u : Int)] w fun e w' => Made w w' e [pt ns 0, pt ns 1, u] sem (p) (b) ∧ Below w.heap.size w w' := by
  have hu1 := Tryd.underlying90
  have HV := Aside0.mk hv
  have H2 := Aside0.mk h2
  have hgl : g < w.heap.size := blk_lt hv.1
  have k0 : w.cell? ⟨g, 0, none⟩ = some (.slice (some ⟨c, 0, none⟩) ns.length ns.length) := blk_cell hv.1 0
  have k1 : w.cell? ⟨g, 1, none⟩ = some (.bool sem) := blk_cell hv.1 1
  have k2 : w.cell? ⟨g, 2, none⟩ = some (.string p) := blk_cell hv.1 2
  have k3 : w.cell? ⟨g, 3, none⟩ = some (.string b) := blk_cell hv.1 3
  clear hv h2
  go_enter Tryd.func45, Tryd.ntmps45
  go_wp2_with (first | (go_at_call 63; (with_reducible refine (major_calls g c ns sem p b _ (HV.out.below (by repeat (first | (with_reducible exact Below.refl _ _) | apply below_alloc | refine below_set ?_ (Nat.le_refl _) | apply pw_below_drewN | apply below_drew1))) H2.out).mono ?_); rintro e w0 ⟨rfl, rfl⟩) | (go_at_call 64; (with_reducible refine (minor_calls g c ns sem p b _ (HV.out.below (by repeat (first | (with_reducible exact Below.refl _ _) | apply below_alloc | refine below_set ?_ (Nat.le_refl _) | apply pw_below_drewN | apply below_drew1))) H2.out).mono ?_); rintro e w0 ⟨rfl, rfl⟩))
  go_ret
  refine ⟨⟨w.heap.size, w.heap.size + 1, rfl, ⟨?_, ?_⟩, Nat.le_refl _, Nat.le_succ _⟩, ?_⟩
  · exact blk_alloc (blk_new w _) _
  · exact new2 w _ _
  · repeat (first | (with_reducible exact Below.refl _ _) | apply below_alloc | refine below_set ?_ (Nat.le_refl _) | apply pw_below_drewN | apply below_drew1)
set_option maxHeartbeats 3200000 in
set_option maxRecDepth 100000 in
theorem withBuild_calls (g c : Nat) (ns : List Nat) (sem : Bool) (p b : ByteArray) (h2 : 2 ≤ ns.length) (s : ByteArray) (w : World) (hv : IsVer w g c ns sem p b) :
    Calls Tryd.prog 47 #[.pointer (some ⟨g, 0, none⟩), .string s] w fun e w' => Made w w' e [pt ns 0, pt ns 1, pt ns 2] sem (p) (s) ∧ Below w.heap.size w w' := by
  have hu1 := Tryd.underlying90
  have HV := Aside0.mk hv
  have H2 := Aside0.mk h2
  have hgl : g < w.heap.size := blk_lt hv.1
  have k0 : w.cell? ⟨g, 0, none⟩ = some (.slice (some ⟨c, 0, none⟩) ns.length ns.length) := blk_cell hv.1 0
  have k1 : w.cell? ⟨g, 1, none⟩ = some (.bool sem) := blk_cell hv.1 1
  have k2 : w.cell? ⟨g, 2, none⟩ = some (.string p) := blk_cell hv.1 2
  have k3 : w.cell? ⟨g, 3, none⟩ = some (.string b) := blk_cell hv.1 3
  clear hv h2
  go_enter Tryd.func47, Tryd.ntmps47
  go_wp2_with (first | (go_at_call 63; (with_reducible refine (major_calls g c ns sem p b _ (HV.out.below (by repeat (first | (with_reducible exact Below.refl _ _) | apply below_alloc | refine below_set ?_ (Nat.le_refl _) | apply pw_below_drewN | apply below_drew1))) H2.out).mono ?_); rintro e w0 ⟨rfl, rfl⟩) | (go_at_call 64; (with_reducible refine (minor_calls g c ns sem p b _ (HV.out.below (by repeat (first | (with_reducible exact Below.refl _ _) | apply below_alloc | refine below_set ?_ (Nat.le_refl _) | apply pw_below_drewN | apply below_drew1))) H2.out).mono ?_); rintro e w0 ⟨rfl, rfl⟩) | (go_at_call 65; (with_reducible refine (patch_calls g c ns sem p b _ (HV.out.below (by repeat (first | (with_reducible exact Below.refl _ _) | apply below_alloc | refine below_set ?_ (Nat.le_refl _) | apply pw_below_drewN | apply below_drew1)))).mono ?_); rintro e w0 ⟨rfl, rfl⟩))
  go_ret
  refine ⟨⟨w.heap.size, w.heap.size + 1, rfl, ⟨?_, ?_⟩, Nat.le_refl _, Nat.le_succ _⟩, ?_⟩
  · exact blk_alloc (blk_new w _) _
  · exact new2 w _ _
  · repeat (first | (with_reducible exact Below.refl _ _) | apply below_alloc | refine below_set ?_ (Nat.le_refl _) | apply pw_below_drewN | apply below_drew1)
set_option maxHeartbeats 3200000 in
set_option maxRecDepth 100000 in
theorem withPreY_calls (g c : Nat) (ns : List Nat) (sem : Bool) (p b : ByteArray) (h2 : 2 ≤ ns.length) (s : ByteArray) (hs : s.size ≠ 0) (w : World) (hv : IsVer w g c ns sem p b) :
    Calls Tryd.prog 46 #[.pointer (some ⟨g, 0, none⟩), .string s] w fun e w' => Made w w' e [pt ns 0, pt ns 1, pt ns 2] sem (s) (b) ∧ Below w.heap.size w w' := by
  have hu1 := Tryd.underlying90
  have HV := Aside0.mk hv
  have H2 := Aside0.mk h2
  have hgl : g < w.heap.size := blk_lt hv.1
  have k0 : w.cell? ⟨g, 0, none⟩ = some (.slice (some ⟨c, 0, none⟩) ns.length ns.length) := blk_cell hv.1 0
  have k1 : w.cell? ⟨g, 1, none⟩ = some (.bool sem) := blk_cell hv.1 1
  have k2 : w.cell? ⟨g, 2, none⟩ = some (.string p) := blk_cell hv.1 2
  have k3 : w.cell? ⟨g, 3, none⟩ = some (.string b) := blk_cell hv.1 3
  have q0 : ((s.size : Int) == 0) = false := beq_eq_false_iff_ne.2 (by omega)
  clear hv h2 hs
  go_enter Tryd.func46, Tryd.ntmps46
  go_wp2_with (first | (go_at_call 63; (with_reducible refine (major_calls g c ns sem p b _ (HV.out.below (by repeat (first | (with_reducible exact Below.refl _ _) | apply below_alloc | refine below_set ?_ (Nat.le_refl _) | apply pw_below_drewN | apply below_drew1))) H2.out).mono ?_); rintro e w0 ⟨rfl, rfl⟩) | (go_at_call 64; (with_reducible refine (minor_calls g c ns sem p b _ (HV.out.below (by repeat (first | (with_reducible exact Below.refl _ _) | apply below_alloc | refine below_set ?_ (Nat.le_refl _) | apply pw_below_drewN | apply below_drew1))) H2.out).mono ?_); rintro e w0 ⟨rfl, rfl⟩) | (go_at_call 65; (with_reducible refine (patch_calls g c ns sem p b _ (HV.out.below (by repeat (first | (with_reducible exact Below.refl _ _) | apply below_alloc | refine below_set ?_ (Nat.le_refl _) | apply pw_below_drewN | apply below_drew1)))).mono ?_); rintro e w0 ⟨rfl, rfl⟩))
  go_ret
  refine ⟨⟨w.heap.size, w.heap.size + 1, rfl, ⟨?_, ?_⟩, Nat.le_refl _, Nat.le_succ _⟩, ?_⟩
  · exact blk_alloc (blk_new w _) _
  · exact new2 w _ _
  · repeat (first | (with_reducible exact Below.refl _ _) | apply below_alloc | refine below_set ?_ (Nat.le_refl _) | apply pw_below_drewN | apply below_drew1)
set_option maxRecDepth 100000 in
theorem withPreN_calls (g : Nat) (s : ByteArray) (hs : s.size = 0) (w : World) :
    Calls Tryd.prog 46 #[.pointer (some ⟨g, 0, none⟩), .string s] w fun e w' => e = .returned (.pointer (some ⟨g, 0, none⟩)) ∧ w' = w := by
  have q0 : ((s.size : Int) == 0) = true := beq_iff_eq.2 (by omega)
  clear hs
  go_enter Tryd.func46, Tryd.ntmps46
  go_wp2
  go_ret
  exact ⟨rfl, rfl⟩
/-- A minor number so many forward, or back. -/
def offM (m : Nat) (off : Int) : Nat := if 0 ≤ off then (m + off.toNat) % 18446744073709551616 else if (-off).toNat < m then m - (-off).toNat else 0
theorem offM_lt {m : Nat} (hm : m < 18446744073709551616) (off : Int) : offM m off < 18446744073709551616 := by
  unfold offM
  split
  · exact Nat.mod_lt _ (by omega)
  · split <;> omega
set_option maxHeartbeats 6400000 in
set_option maxRecDepth 100000 in
theorem offset_calls (g c : Nat) (ns : List Nat) (sem : Bool) (p b : ByteArray) (h2 : 2 ≤ ns.length) (hns : ∀ n ∈ ns, n < 18446744073709551616) (off : Int) (h0 : -9223372036854775808 ≤ off) (h1 : off ≤ 9223372036854775807) (w : World) (hv : IsVer w g c ns sem p b) :
    Calls Tryd.prog 50 #[.pointer (some ⟨g, 0, none⟩), .int .i64 off] w fun e w' => Made w w' e [pt ns 0, offM (pt ns 1) off] false ⟨#[]⟩ ⟨#[]⟩ ∧ Below w.heap.size w w' := by
  have hm := pt_lt hns 1
  have HMA := Aside0.mk (major_calls g c ns sem p b w hv h2)
  have HMI := minor_calls g c ns sem p b w hv h2
  clear hv h2 hns
  generalize pt ns 1 = m at hm HMI ⊢
  replace HMI := Aside0.mk HMI
  by_cases c0 : 0 ≤ off
  · have q0 : decide (0 ≤ off) = true := decide_eq_true c0
    have e1 : IntKind.u64.wrap off = off := by rw [IntKind.wrap_u64]; omega
    have e2 : IntKind.u64.wrap ((m : Int) + off) = ((offM m off : Nat) : Int) := by unfold offM; rw [if_pos c0, IntKind.wrap_u64]; omega
    have HMM := Aside0.mk (fun w => mm_calls (pt ns 0) (offM m off) w)
    clear c0 h0 h1 hm
    go_enter Tryd.func50, Tryd.ntmps50
    go_wp2_with (first | (go_at_call 63; (with_reducible refine HMA.out.mono ?_); rintro e w0 ⟨rfl, rfl⟩) | (go_at_call 64; (with_reducible refine HMI.out.mono ?_); rintro e w0 ⟨rfl, rfl⟩) | (go_at_call 30; (with_reducible refine (HMM.out _).mono ?_); rintro e w2 ⟨g2, c2, rfl, hv2, h5, h6, hb⟩))
    go_ret
    exact ⟨⟨g2, c2, rfl, hv2, h5, h6⟩, hb⟩
  · have q0 : decide (0 ≤ off) = false := decide_eq_false c0
    have e1 : IntKind.u64.wrap (wrap64 (-off)) = (((-off).toNat : Nat) : Int) := by rw [IntKind.wrap_u64]; unfold wrap64; omega
    have e1' : IntKind.u64.wrap (IntKind.i64.wrap (-off)) = (((-off).toNat : Nat) : Int) := by rw [Go.Proofs.YtomoefldmgfaoaaDoorW.PrintLast.i64_w]; exact e1
    have hd : offM m off = if (-off).toNat < m then m - (-off).toNat else 0 := by unfold offM; rw [if_neg c0]
    rw [hd]
    clear hd c0 h0 h1
    generalize (-off).toNat = df at e1 e1' ⊢
    by_cases c1 : df < m
    · rw [if_pos c1]
      have q1 : decide ((df : Int) < (m : Int)) = true := decide_eq_true (by omega)
      have q2 : (df < m) = True := eq_true c1
      have e2 : IntKind.u64.wrap ((m : Int) - (df : Int)) = ((m - df : Nat) : Int) := by rw [IntKind.wrap_u64]; omega
      have HMM := Aside0.mk (fun w => mm_calls (pt ns 0) (m - df) w)
      clear c1 hm
      go_enter Tryd.func50, Tryd.ntmps50
      go_wp2_with (first | (go_at_call 63; (with_reducible refine HMA.out.mono ?_); rintro e w0 ⟨rfl, rfl⟩) | (go_at_call 64; (with_reducible refine HMI.out.mono ?_); rintro e w0 ⟨rfl, rfl⟩) | (go_at_call 30; (with_reducible refine (HMM.out _).mono ?_); rintro e w2 ⟨g2, c2, rfl, hv2, h5, h6, hb⟩))
      go_ret
      exact ⟨⟨g2, c2, rfl, hv2, h5, h6⟩, hb⟩
    · rw [if_neg c1]
      have q1 : decide ((df : Int) < (m : Int)) = false := decide_eq_false (by omega)
      have q2 : (df < m) = False := eq_false c1
      have HMM : Aside0 (∀ w, Calls Tryd.prog 30 #[.int .u64 (pt ns 0 : Int), .int .u64 0] w fun e w' => ∃ g c, e = .returned (.pointer (some ⟨g, 0, none⟩)) ∧ IsVer w' g c [pt ns 0, 0] false ⟨#[]⟩ ⟨#[]⟩ ∧ w.heap.size ≤ g ∧ w.heap.size ≤ c ∧ Below w.heap.size w w') := ⟨fun w => mm_calls (pt ns 0) 0 w⟩
      clear c1 hm
      go_enter Tryd.func50, Tryd.ntmps50
      go_wp2_with (first | (go_at_call 63; (with_reducible refine HMA.out.mono ?_); rintro e w0 ⟨rfl, rfl⟩) | (go_at_call 64; (with_reducible refine HMI.out.mono ?_); rintro e w0 ⟨rfl, rfl⟩) | (go_at_call 30; (with_reducible refine (HMM.out _).mono ?_); rintro e w2 ⟨g2, c2, rfl, hv2, h5, h6, hb⟩))
      go_ret
      exact ⟨⟨g2, c2, rfl, hv2, h5, h6⟩, hb⟩
set_option maxHeartbeats 3200000 in
set_option maxRecDepth 100000 in
theorem add_calls (g c : Nat) (ns : List Nat) (sem : Bool) (p b : ByteArray) (h2 : 2 ≤ ns.length) (hns : ∀ n ∈ ns, n < 18446744073709551616) (u : Nat) (w : World) (hv : IsVer w g c ns sem p b) :
    Calls Tryd.prog 48 #[.pointer (some ⟨g, 0, none⟩), .int .u64 (u : Int)] w fun e w' => Made w w' e [pt ns 0, offM (pt ns 1) (wrap64 (u : Int))] false ⟨#[]⟩ ⟨#[]⟩ ∧ Below w.heap.size w w' := by
  have HO := offset_calls g c ns sem p b h2 hns (wrap64 (u : Int)) (by unfold wrap64; omega) (by unfold wrap64; omega) w hv
  clear hv h2 hns
  generalize offM (pt ns 1) (wrap64 (u : Int)) = mo at HO ⊢
  replace HO := Aside0.mk HO
  go_enter Tryd.func48, Tryd.ntmps48
  go_wp2_with (go_at_call 50; (refine HO.out.mono ?_); rintro e w2 ⟨⟨g2, c2, rfl, hv2, h5, h6⟩, hb⟩)
  go_ret
  exact ⟨⟨g2, c2, rfl, hv2, h5, h6⟩, hb⟩
set_option maxHeartbeats 3200000 in
set_option maxRecDepth 100000 in
theorem sub_calls (g c : Nat) (ns : List Nat) (sem : Bool) (p b : ByteArray) (h2 : 2 ≤ ns.length) (hns : ∀ n ∈ ns, n < 18446744073709551616) (u : Nat) (w : World) (hv : IsVer w g c ns sem p b) :
    Calls Tryd.prog 49 #[.pointer (some ⟨g, 0, none⟩), .int .u64 (u : Int)] w fun e w' => Made w w' e [pt ns 0, offM (pt ns 1) (wrap64 (-(wrap64 (u : Int))))] false ⟨#[]⟩ ⟨#[]⟩ ∧ Below w.heap.size w w' := by
  have HO := offset_calls g c ns sem p b h2 hns (wrap64 (-(wrap64 (u : Int)))) (by unfold wrap64; omega) (by unfold wrap64; omega) w hv
  clear hv h2 hns
  generalize offM (pt ns 1) (wrap64 (-(wrap64 (u : Int)))) = mo at HO ⊢
  replace HO := Aside0.mk HO
  go_enter Tryd.func49, Tryd.ntmps49
  go_wp2_with (go_at_call 50; (refine HO.out.mono ?_); rintro e w2 ⟨⟨g2, c2, rfl, hv2, h5, h6⟩, hb⟩)
  go_ret
  exact ⟨⟨g2, c2, rfl, hv2, h5, h6⟩, hb⟩
/-- What a step makes of a version. -/
def stepV (v : Pd) (d : Int) (n : Nat) (off : Int) (s : Bs) : Pd :=
  if d = 0 then (v.1, [n, pt v.2.1 1, pt v.2.1 2], v.2.2.1, v.2.2.2)
  else if d = 1 then (v.1, [pt v.2.1 0, n, pt v.2.1 2], v.2.2.1, v.2.2.2)
  else if d = 2 then (v.1, [pt v.2.1 0, pt v.2.1 1, n], v.2.2.1, v.2.2.2)
  else if d = 3 then (if s = [] then v else (v.1, [pt v.2.1 0, pt v.2.1 1, pt v.2.1 2], s, v.2.2.2))
  else if d = 4 then (v.1, [pt v.2.1 0, pt v.2.1 1, pt v.2.1 2], v.2.2.1, s)
  else if d = 5 then (false, [pt v.2.1 0, offM (pt v.2.1 1) (wrap64 (n : Int))], [], [])
  else if d = 6 then (false, [pt v.2.1 0, offM (pt v.2.1 1) (wrap64 (-(wrap64 (n : Int))))], [], [])
  else (false, [pt v.2.1 0, offM (pt v.2.1 1) off], [], [])
theorem stepV_fit {M : Nat} {v : Pd} (h : FitP M v) (hM : 1 ≤ M) (d : Int) (n : Nat) (hn : n < 18446744073709551616) (off : Int) (s : Bs) (hs : s.length ≤ M) : FitP M (stepV v d n off s) := by
  obtain ⟨h1, h2, h3, h4, h5⟩ := h
  have p0 := pt_lt h3 0
  have p1 := pt_lt h3 1
  have p2 := pt_lt h3 2
  have o1 := fun off => offM_lt p1 off
  have three : ∀ (sm : Bool) (a b c : Nat) (p q : Bs), a < 18446744073709551616 → b < 18446744073709551616 → c < 18446744073709551616 → p.length ≤ M → q.length ≤ M → FitP M (sm, [a, b, c], p, q) := fun sm a b c p q ha hb hc hp hq => ⟨by show 2 ≤ 3; omega, by show 3 ≤ M + 2; omega, fun m hm => by simp only [List.mem_cons, List.not_mem_nil, or_false] at hm; rcases hm with rfl | rfl | rfl <;> assumption, hp, hq⟩
  have two : ∀ (sm : Bool) (a b : Nat), a < 18446744073709551616 → b < 18446744073709551616 → FitP M (sm, [a, b], ([] : Bs), ([] : Bs)) := fun sm a b ha hb => ⟨Nat.le_refl 2, by show 2 ≤ M + 2; omega, fun m hm => by simp only [List.mem_cons, List.not_mem_nil, or_false] at hm; rcases hm with rfl | rfl <;> assumption, Nat.zero_le _, Nat.zero_le _⟩
  unfold stepV
  repeat' split
  · exact three _ _ _ _ _ _ hn p1 p2 h4 h5
  · exact three _ _ _ _ _ _ p0 hn p2 h4 h5
  · exact three _ _ _ _ _ _ p0 p1 hn h4 h5
  · exact ⟨h1, h2, h3, h4, h5⟩
  · exact three _ _ _ _ _ _ p0 p1 p2 hs h5
  · exact three _ _ _ _ _ _ p0 p1 p2 h4 hs
  · exact two _ _ _ p0 (o1 _)
  · exact two _ _ _ p0 (o1 _)
  · exact two _ _ _ p0 (o1 _)
end Go.Proofs.YtomoefldmgfaoaaDoor.Pv
