/- Versions: a version made of two numbers, as data. -/
import Derived.Test.YtomoefldmgfaoaaDoorVerX
import Derived.ArgAppend
set_option linter.unusedVariables false
set_option linter.unusedSimpArgs false
namespace Go.Proofs.YtomoefldmgfaoaaDoor.Ver
open Go Go.Sort Go.RowKit Go.Proofs.YtomoefldmgfaoaaDoorW.PrintWords

abbrev zero28 : Obj := .cells #[.bool false, .slice none 0 0, .string ⟨#[]⟩, .string ⟨#[]⟩, .string ⟨#[]⟩, .int .u64 0, .int .u64 0, .int .u64 0] 28 (0, 0)
abbrev verOut (c2 cp a m : Nat) : Value := .agg #[.bool true, .slice (some ⟨c2, 0, none⟩) 2 cp, .string ⟨#[]⟩, .string ⟨#[]⟩, .string (txt a m), .int .u64 (a : Int), .int .u64 (m : Int), .int .u64 0]
def Two (w : World) (c a m : Nat) : Prop := w.cell? ⟨c, 0, none⟩ = some (.int .u64 (a : Int)) ∧ w.cell? ⟨c, 1, none⟩ = some (.int .u64 (m : Int))
theorem Two.below {w w' : World} {c a m : Nat} (h : Two w c a m) (hb : Below w.heap.size w w') : Two w' c a m :=
  ⟨(hb.cell (World.block_lt_of_cell? w _ h.1)).trans h.1, (hb.cell (World.block_lt_of_cell? w _ h.2)).trans h.2⟩
theorem Two.set {w : World} {c a m g i : Nat} {u : Value} (h : Two w c a m) (hne : c ≠ g) : Two (w.setCell ⟨g, i, none⟩ u) c a m := ⟨by rw [cell_far (by exact hne)]; exact h.1, by rw [cell_far (by exact hne)]; exact h.2⟩
theorem owned_two {w : World} {base n a m : Nat} {v : Value} (h : w.ownsRow base 22 1 v n [.int .u64 (a : Int), .int .u64 (m : Int)]) : ∃ g cp, v = .slice (some ⟨g, 0, none⟩) 2 cp ∧ base ≤ g ∧ 2 ≤ cp ∧ Two w g a m := by
  obtain ⟨hl, h⟩ := h
  have hn : n = 2 := by simpa using hl.symm
  subst hn
  rcases h with ⟨rfl, h, _⟩ | ⟨g, cp, cs, rfl, hb, hheap, hge, _, hsz, hcs⟩
  · have h2 : cs.toList.take 2 = [.int .u64 (a : Int), .int .u64 (m : Int)] := hcs
    have k0 : (cs.toList.take 2)[0]? = some (.int .u64 (a : Int)) := by rw [h2]; rfl
    have k1 : (cs.toList.take 2)[1]? = some (.int .u64 (m : Int)) := by rw [h2]; rfl
    rw [List.getElem?_take_of_lt (by omega)] at k0 k1
    exact ⟨g, cp, rfl, hb, hge, by rw [cell_of_row w g 0 cs _ _ hheap]; simpa using k0, by rw [cell_of_row w g 1 cs _ _ hheap]; simpa using k1⟩

set_option maxRecDepth 100000 in
theorem comp_calls (g c a m : Nat) (w : World) (hv : IsVer w g c a m) : Calls Tryd.prog 59 #[.pointer (some ⟨g, 0, none⟩)] w fun e w' => e = .returned (.slice (some ⟨c, 0, none⟩) 2 2) ∧ w' = w := by
  have hu1 := Tryd.underlying90
  have k0 : w.cell? ⟨g, 0, none⟩ = some (.slice (some ⟨c, 0, none⟩) 2 2) := blk_cell hv.1 0
  have k2 : w.cell? ⟨g, 2, none⟩ = some (.string ⟨#[]⟩) := blk_cell hv.1 2
  have k3 : w.cell? ⟨g, 3, none⟩ = some (.string ⟨#[]⟩) := blk_cell hv.1 3
  have d0 : w.cell? ⟨c, 0, none⟩ = some (.int .u64 (a : Int)) := blk_cell hv.2 0
  have d1 : w.cell? ⟨c, 1, none⟩ = some (.int .u64 (m : Int)) := blk_cell hv.2 1
  go_enter Tryd.func59, Tryd.ntmps59
  go_wp2
  go_ret
  exact ⟨rfl, rfl⟩
set_option maxRecDepth 100000 in
theorem pre_calls (g c a m : Nat) (w : World) (hv : IsVer w g c a m) : Calls Tryd.prog 60 #[.pointer (some ⟨g, 0, none⟩)] w fun e w' => e = .returned (.string ⟨#[]⟩) ∧ w' = w := by
  have hu1 := Tryd.underlying90
  have k0 : w.cell? ⟨g, 0, none⟩ = some (.slice (some ⟨c, 0, none⟩) 2 2) := blk_cell hv.1 0
  have k2 : w.cell? ⟨g, 2, none⟩ = some (.string ⟨#[]⟩) := blk_cell hv.1 2
  have k3 : w.cell? ⟨g, 3, none⟩ = some (.string ⟨#[]⟩) := blk_cell hv.1 3
  have d0 : w.cell? ⟨c, 0, none⟩ = some (.int .u64 (a : Int)) := blk_cell hv.2 0
  have d1 : w.cell? ⟨c, 1, none⟩ = some (.int .u64 (m : Int)) := blk_cell hv.2 1
  go_enter Tryd.func60, Tryd.ntmps60
  go_wp2
  go_ret
  exact ⟨rfl, rfl⟩
set_option maxRecDepth 100000 in
theorem build_calls (g c a m : Nat) (w : World) (hv : IsVer w g c a m) : Calls Tryd.prog 61 #[.pointer (some ⟨g, 0, none⟩)] w fun e w' => e = .returned (.string ⟨#[]⟩) ∧ w' = w := by
  have hu1 := Tryd.underlying90
  have k0 : w.cell? ⟨g, 0, none⟩ = some (.slice (some ⟨c, 0, none⟩) 2 2) := blk_cell hv.1 0
  have k2 : w.cell? ⟨g, 2, none⟩ = some (.string ⟨#[]⟩) := blk_cell hv.1 2
  have k3 : w.cell? ⟨g, 3, none⟩ = some (.string ⟨#[]⟩) := blk_cell hv.1 3
  have d0 : w.cell? ⟨c, 0, none⟩ = some (.int .u64 (a : Int)) := blk_cell hv.2 0
  have d1 : w.cell? ⟨c, 1, none⟩ = some (.int .u64 (m : Int)) := blk_cell hv.2 1
  go_enter Tryd.func61, Tryd.ntmps61
  go_wp2
  go_ret
  exact ⟨rfl, rfl⟩
set_option maxRecDepth 100000 in
theorem major_calls (g c a m : Nat) (w : World) (hv : IsVer w g c a m) : Calls Tryd.prog 63 #[.pointer (some ⟨g, 0, none⟩)] w fun e w' => e = .returned (.int .u64 (a : Int)) ∧ w' = w := by
  have hu1 := Tryd.underlying90
  have k0 : w.cell? ⟨g, 0, none⟩ = some (.slice (some ⟨c, 0, none⟩) 2 2) := blk_cell hv.1 0
  have k2 : w.cell? ⟨g, 2, none⟩ = some (.string ⟨#[]⟩) := blk_cell hv.1 2
  have k3 : w.cell? ⟨g, 3, none⟩ = some (.string ⟨#[]⟩) := blk_cell hv.1 3
  have d0 : w.cell? ⟨c, 0, none⟩ = some (.int .u64 (a : Int)) := blk_cell hv.2 0
  have d1 : w.cell? ⟨c, 1, none⟩ = some (.int .u64 (m : Int)) := blk_cell hv.2 1
  go_enter Tryd.func63, Tryd.ntmps63
  go_wp2
  go_ret
  exact ⟨rfl, rfl⟩
set_option maxRecDepth 100000 in
theorem minor_calls (g c a m : Nat) (w : World) (hv : IsVer w g c a m) : Calls Tryd.prog 64 #[.pointer (some ⟨g, 0, none⟩)] w fun e w' => e = .returned (.int .u64 (m : Int)) ∧ w' = w := by
  have hu1 := Tryd.underlying90
  have k0 : w.cell? ⟨g, 0, none⟩ = some (.slice (some ⟨c, 0, none⟩) 2 2) := blk_cell hv.1 0
  have k2 : w.cell? ⟨g, 2, none⟩ = some (.string ⟨#[]⟩) := blk_cell hv.1 2
  have k3 : w.cell? ⟨g, 3, none⟩ = some (.string ⟨#[]⟩) := blk_cell hv.1 3
  have d0 : w.cell? ⟨c, 0, none⟩ = some (.int .u64 (a : Int)) := blk_cell hv.2 0
  have d1 : w.cell? ⟨c, 1, none⟩ = some (.int .u64 (m : Int)) := blk_cell hv.2 1
  go_enter Tryd.func64, Tryd.ntmps64
  go_wp2
  go_ret
  exact ⟨rfl, rfl⟩
set_option maxRecDepth 100000 in
theorem patch_calls (g c a m : Nat) (w : World) (hv : IsVer w g c a m) : Calls Tryd.prog 65 #[.pointer (some ⟨g, 0, none⟩)] w fun e w' => e = .returned (.int .u64 0) ∧ w' = w := by
  have hu1 := Tryd.underlying90
  have k0 : w.cell? ⟨g, 0, none⟩ = some (.slice (some ⟨c, 0, none⟩) 2 2) := blk_cell hv.1 0
  have k2 : w.cell? ⟨g, 2, none⟩ = some (.string ⟨#[]⟩) := blk_cell hv.1 2
  have k3 : w.cell? ⟨g, 3, none⟩ = some (.string ⟨#[]⟩) := blk_cell hv.1 3
  have d0 : w.cell? ⟨c, 0, none⟩ = some (.int .u64 (a : Int)) := blk_cell hv.2 0
  have d1 : w.cell? ⟨c, 1, none⟩ = some (.int .u64 (m : Int)) := blk_cell hv.2 1
  go_enter Tryd.func65, Tryd.ntmps65
  go_wp2
  go_ret
  exact ⟨rfl, rfl⟩
set_option maxHeartbeats 6400000 in
set_option maxRecDepth 100000 in
theorem ver_calls (g c a m : Nat) (ha : a < 18446744073709551616) (hm : m < 18446744073709551616) (w : World) (hv : IsVer w g c a m) (htab : Lib.TabIs Tryd.prog w "internal/strconv.uint64pow10" .u64 Lib.pow10Tab) :
    Calls Tryd.prog 29 #[.pointer (some ⟨g, 0, none⟩), .nilIface] w fun e w' => ∃ c2 cp, e = .returned (verOut c2 cp a m) ∧ Two w' c2 a m ∧ w.heap.size ≤ c2 ∧ Below w.heap.size w w' := by
  have mixed : Tryd.prog.follows .mixedOrders = true := by kernel_rfl
  have hu1 := Tryd.underlying90
  have hu2 := Tryd.underlying28
  obtain ⟨i0, hi, hz0, hz1, hz2⟩ := info_parts (show (Tryd.prog.info? 22).map (fun i => (i.zero, i.size, i.bytes)) = some (some (.int .u64 0), 1, 8) by kernel_rfl)
  have HT : Aside0 (∀ w', Below w.heap.size w w' → Lib.TabIs Tryd.prog w' "internal/strconv.uint64pow10" .u64 Lib.pow10Tab) := ⟨Lib.tabBelow_of_tabIs htab⟩
  have HV := Aside0.mk hv
  have HS := Aside0.mk (fun w hv h => str_calls g c a m ha hm w hv h)
  have k0 : w.cell? ⟨g, 0, none⟩ = some (.slice (some ⟨c, 0, none⟩) 2 2) := blk_cell hv.1 0
  have hgl : g < w.heap.size := blk_lt hv.1
  have hcl : c < w.heap.size := blk_lt hv.2
  have T0 : Two w c a m := ⟨blk_cell hv.2 0, blk_cell hv.2 1⟩
  clear htab hv ha hm
  go_enter Tryd.func29, Tryd.ntmps29
  have B0 : Aside0 (Below w.heap.size w ((w.alloc zero28).alloc (.cells #[] 22))) := ⟨by repeat (first | exact Below.refl _ _ | apply below_alloc | apply pw_below_drewN | apply below_drew1)⟩
  have V0 := Aside0.mk (HV.out.below B0.out)
  clear T0 k0
  go_wp2_with (first
    | (go_at_call 59; (with_reducible refine (comp_calls g c a m _ V0.out).mono ?_); rintro e w0 ⟨rfl, rfl⟩)
    | (at_builtin; refine wpList_append_grows _ rfl (.tmp 12) (.tmp 14) 24 rfl 22 i0 (.int .u64 0) 1 8 Tryd.underlying24 hi hz0 hz1 hz2 rfl (by decide) _ 0 0 [] rfl (fun _ => ⟨rfl, rfl⟩) rfl (by intro _ _ _ _ h; simp at h) ⟨c, 0, none⟩ 2 2 [.int .u64 (a : Int), .int .u64 (m : Int)] rfl rfl ?c1 ?c2 (by omega) (by unfold maxLen; omega) (by omega) ?grow))
  case c1 =>
    intro j u hj
    rw [Addr.add_lit]
    match j, hj with
    | 0, hj => simp at hj; subst hj; exact blk_cell V0.out.2 0
    | 1, hj => simp at hj; subst hj; exact blk_cell V0.out.2 1
  case c2 =>
    intro u hu
    simp at hu
    rcases hu with rfl | rfl <;> rfl
  case grow =>
    intro v1 w1 hown hgrow
    obtain ⟨bc, cp, rfl, hb, hcp, hT⟩ := owned_two hown
    have hb2 : w.heap.size < bc := by first | omega | (simp at hb; omega)
    have B1 : Aside0 (Below w.heap.size w w1) := ⟨pw_below_grown B0.out none B0.out.size hgrow (by intro k h; cases h)⟩
    have V1 := Aside0.mk (HV.out.below B1.out)
    have R1 : Aside0 (w1.heap[w.heap.size]? = some zero28) := ⟨blk_grown (blk_alloc (blk_new w zero28) _) hgrow (by simp)⟩
    have T1 := Aside0.mk hT
    clear hown hgrow hb hT
    go_wp2_with (first
      | (go_at_call 60; (with_reducible refine (pre_calls g c a m _ V1.out).mono ?_); rintro e w0 ⟨rfl, rfl⟩)
      | (go_at_call 61; (with_reducible refine (build_calls g c a m _ V1.out).mono ?_); rintro e w0 ⟨rfl, rfl⟩)
      | (go_at_call 62; (with_reducible refine (HS.out _ V1.out (HT.out _ B1.out)).mono ?_); rintro e w2 ⟨rfl, hb⟩; have B2 := Aside0.mk (below_step B1.out hb); have V2 := Aside0.mk (V1.out.below hb); have T2 := Aside0.mk (T1.out.below hb); have R2 := Aside0.mk (blk_below R1.out hb); have c0 : w2.cell? ⟨w.heap.size, 0, none⟩ = some (.bool false) := blk_cell R2.out 0; have f0 := blk_frozen R2.out 0; have c1 : w2.cell? ⟨w.heap.size, 1, none⟩ = some (.slice none 0 0) := blk_cell R2.out 1; have f1 := blk_frozen R2.out 1; have c2 : w2.cell? ⟨w.heap.size, 2, none⟩ = some (.string ⟨#[]⟩) := blk_cell R2.out 2; have f2 := blk_frozen R2.out 2; have c3 : w2.cell? ⟨w.heap.size, 3, none⟩ = some (.string ⟨#[]⟩) := blk_cell R2.out 3; have f3 := blk_frozen R2.out 3; have c4 : w2.cell? ⟨w.heap.size, 4, none⟩ = some (.string ⟨#[]⟩) := blk_cell R2.out 4; have f4 := blk_frozen R2.out 4; have c5 : w2.cell? ⟨w.heap.size, 5, none⟩ = some (.int .u64 0) := blk_cell R2.out 5; have f5 := blk_frozen R2.out 5; have c6 : w2.cell? ⟨w.heap.size, 6, none⟩ = some (.int .u64 0) := blk_cell R2.out 6; have f6 := blk_frozen R2.out 6; have c7 : w2.cell? ⟨w.heap.size, 7, none⟩ = some (.int .u64 0) := blk_cell R2.out 7; have f7 := blk_frozen R2.out 7; have hs2 := (B2.out).size; clear hb)
      | (go_at_call 63; (with_reducible refine (major_calls g c a m _ V2.out).mono ?_); rintro e w0 ⟨rfl, rfl⟩)
      | (go_at_call 64; (with_reducible refine (minor_calls g c a m _ V2.out).mono ?_); rintro e w0 ⟨rfl, rfl⟩)
      | (go_at_call 65; (with_reducible refine (patch_calls g c a m _ V2.out).mono ?_); rintro e w0 ⟨rfl, rfl⟩))
    refine bodyPost_ret (v := verOut bc cp a m) (by simp [results, Tryd.results29, go_sem, c0, f0, c1, f1, c2, f2, c3, f3, c4, f4, c5, f5, c6, f6, c7, f7, hs2, verOut]) rfl ⟨bc, cp, rfl, ?_, Nat.le_of_lt hb2, ?_⟩
    · repeat (first | (with_reducible exact T2.out) | refine Two.set ?_ (by omega))
    · repeat (first | (with_reducible exact B2.out) | refine below_set ?_ (Nat.le_refl _))
end Go.Proofs.YtomoefldmgfaoaaDoor.Ver
