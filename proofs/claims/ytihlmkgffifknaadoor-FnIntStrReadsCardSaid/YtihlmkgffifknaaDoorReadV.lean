/- The reader of the fields: the thin package's call. -/
import Derived.Test.YtihlmkgffifknaaDoorReadZ
import Derived.ArgAppend
set_option linter.unusedVariables false
set_option linter.unusedSimpArgs false
namespace Go.Proofs.YtihlmkgffifknaaDoor.Read
open Go Go.Sort Go.RowKit Go.Proofs.YtihlmkgffifknaaDoorW.PrintWords

def impOut : Res → Value
  | .ok x => .tuple #[xOut x, .bool true]
  | _ => .tuple #[xOut x0, .bool false]
theorem owned_bytes {w : World} {base n : Nat} {v : Value} {zs : List Int} (h : w.ownsRow base 5 1 v n (zs.map (Value.int .u8))) (h0 : 0 < zs.length) : ∃ g cp, v = .slice (some ⟨g, 0, none⟩) n cp ∧ base ≤ g ∧ n ≤ cp ∧ n = zs.length ∧ BytesAt w g 0 zs := by
  obtain ⟨hl, h⟩ := h
  rw [List.length_map, Nat.mul_one] at hl
  rcases h with ⟨rfl, h, _⟩ | ⟨g, cp, cs, rfl, hb, hheap, hge, _, hsz, hcs⟩
  · omega
  · refine ⟨g, cp, rfl, hb, hge, hl.symm, fun j hj => ?_⟩
    rw [Nat.zero_add, cell_of_row w g j cs _ _ hheap]
    have h1 : (cs.toList.take (n * 1))[j]? = some (Value.int .u8 (zs.getD j 0)) := by
      rw [show cs.toList.take (n * 1) = zs.map (Value.int .u8) from hcs, List.getElem?_map, List.getElem?_eq_getElem hj, List.getD_eq_getElem?_getD, List.getElem?_eq_getElem hj]; rfl
    rw [List.getElem?_take_of_lt (by omega)] at h1
    simpa using h1

set_option maxRecDepth 100000 in
set_option maxHeartbeats 4000000 in
theorem impl_some (b A cap : Nat) (zs : List Int) (w : World) (h0 : 0 < zs.length) (hz : BytesAt w b A zs) (hr : Bys zs) (hmax : zs.length ≤ 2147483647) (hge : GErr w) (hleft : all (zs.length + 1) zs x0 ≠ .left) :
    Calls Tryd.prog 8 #[.slice (some ⟨b, A, none⟩) zs.length cap] w fun e w' => e = .returned (impOut (all (zs.length + 1) zs x0)) ∧ Below w.heap.size w w' := by
  have mixed : Tryd.prog.follows .mixedOrders = true := by kernel_rfl
  have hu1 := Tryd.underlying51
  have hu2 := Tryd.underlying24
  obtain ⟨i0, hi, hz0, hz1, hz2⟩ := info_parts (show (Tryd.prog.info? 5).map (fun i => (i.zero, i.size, i.bytes)) = some (some (.int .u8 0), 1, 1) by kernel_rfl)
  have HZ := Aside0.mk hz
  have HG := Aside0.mk hge
  have HL := Aside0.mk hleft
  have HR := Aside0.mk hr
  clear hz hge hleft hr
  go_enter Tryd.func8, Tryd.ntmps8
  go_wp2_with (at_builtin; refine wpList_append_grows _ rfl (.tmp 5) (.tmp 6) 22 rfl 5 i0 (.int .u8 0) 1 1 Tryd.underlying22 hi hz0 hz1 hz2 rfl (by decide) _ 0 0 [] rfl (fun _ => ⟨rfl, rfl⟩) rfl (by intro _ _ _ _ h; simp at h) ⟨b, A, none⟩ zs.length cap (zs.map (Value.int .u8)) rfl (by simp) ?c1 ?c2 (by omega) (by unfold maxLen; omega) (by omega) ?grow)
  case c1 =>
    intro j u hj
    rw [List.getElem?_map] at hj
    have hl : j < zs.length := by
      rcases Nat.lt_or_ge j zs.length with h | h
      · exact h
      · rw [List.getElem?_eq_none h] at hj; cases hj
    rw [Addr.add_lit]
    refine Eq.trans (HZ.out.below ?hb j hl) ?_
    case hb => repeat (first | exact Below.refl _ _ | apply below_alloc | apply pw_below_drewN | apply below_drew1)
    rw [List.getElem?_eq_getElem hl] at hj
    rw [List.getD_eq_getElem?_getD, List.getElem?_eq_getElem hl]
    exact hj
  case c2 =>
    intro u hu
    obtain ⟨z, _, rfl⟩ := List.mem_map.1 hu
    rfl
  case grow =>
    intro v1 w1 hown hgrow
    obtain ⟨g1, cp1, rfl, hb1, hle, hn, hB1⟩ := owned_bytes hown h0
    have HBl : Aside0 (Below w.heap.size w w1) := ⟨pw_below_grown (below_alloc (below_alloc (below_alloc (Below.refl w.heap.size w) _) _) _) none (by simp; omega) hgrow (by intro k h; cases h)⟩
    have R1 : Aside0 (w1.heap[w.heap.size + 1]? = some (cellsM x0)) := ⟨blk_grown (by have h := blk_new (w.alloc (cellsX x0)) (cellsM x0); rw [show (w.alloc (cellsX x0)).heap.size = w.heap.size + 1 by simp] at h; exact blk_alloc h _) hgrow (by simp)⟩
    have R0 : Aside0 (w1.heap[w.heap.size]? = some (cellsX x0)) := ⟨blk_grown (blk_alloc (blk_alloc (blk_new w _) _) _) hgrow (by simp)⟩
    have h3 : 3 ≤ w.heap.size := by
      obtain ⟨t0, v0, t1, v1, t2, v2, _, _, h2⟩ := HG.out
      exact World.block_lt_of_cell? w _ h2
    have HU := Aside0.mk (unm_calls g1 0 cp1 (w.heap.size + 1) zs x0 w1 hB1 HR.out hmax (by omega) (by omega) (by omega) (HG.out.below HBl.out) R1.out HL.out)
    clear hown hgrow hB1 hb1
    rcases ha : all (zs.length + 1) zs x0 with _ | _ | y
    · exact absurd ha HL.out
    · have HU2 : Aside0 (Calls Tryd.prog 23 #[.pointer (some ⟨w.heap.size + 1, 0, none⟩), .slice (some ⟨g1, 0, none⟩) zs.length cp1] w1 fun e w' => w1.grownBy w' (some (w.heap.size + 1)) ∧ ∃ t u, e = .returned (.iface t u)) :=
        ⟨HU.out.mono fun e w' h => ⟨h.1, by rcases h.2 with ⟨_, h⟩ | ⟨y, h, _⟩; exact h; rw [ha] at h; cases h⟩⟩
      have HA0 := Aside0.mk ha
      clear HU ha
      go_wp2_with (go_at_call 23; (with_reducible refine (HU2.out).mono ?_); rintro e w2 ⟨hg2, t, u, rfl⟩; have B2 := Aside0.mk (HBl.out.grown hg2 HBl.out.size (by intro k h; cases h; omega)); have R2 := Aside0.mk (blk_grown R0.out hg2 (by simp)); have c0 : w2.cell? ⟨w.heap.size, 0, none⟩ = some (.int .i64 0) := blk_cell R2.out 0; have c1 : w2.cell? ⟨w.heap.size, 1, none⟩ = some (.int .i32 0) := blk_cell R2.out 1; have c2 : w2.cell? ⟨w.heap.size, 2, none⟩ = some (.string ⟨#[]⟩) := blk_cell R2.out 2; have f0 := blk_frozen R2.out 0; have f1 := blk_frozen R2.out 1; have f2 := blk_frozen R2.out 2; have hs2 := (B2.out).size; clear hg2)
      exact bodyPost_ret (v := .tuple #[xOut x0, .bool false]) (by simp [results, Tryd.results8, go_sem, c0, c1, c2, f0, f1, f2, hs2, xOut, x0]) rfl ⟨by rw [HA0.out]; rfl, below_set (below_set (below_set B2.out (Nat.le_refl _)) (Nat.le_refl _)) (Nat.le_refl _)⟩
    · have HU2 : Aside0 (Calls Tryd.prog 23 #[.pointer (some ⟨w.heap.size + 1, 0, none⟩), .slice (some ⟨g1, 0, none⟩) zs.length cp1] w1 fun e w' => w1.grownBy w' (some (w.heap.size + 1)) ∧ e = .returned .nilIface ∧ w'.heap[w.heap.size + 1]? = some (cellsM y)) :=
        ⟨HU.out.mono fun e w' h => ⟨h.1, by rcases h.2 with ⟨h, _⟩ | ⟨z, h, h1, h2⟩; rw [ha] at h; cases h; rw [ha] at h; cases h; exact ⟨h1, h2⟩⟩⟩
      have HA0 := Aside0.mk ha
      clear HU ha
      go_wp2_with (go_at_call 23; (with_reducible refine (HU2.out).mono ?_); rintro e w2 ⟨hg2, rfl, hm2⟩; have B2 := Aside0.mk (HBl.out.grown hg2 HBl.out.size (by intro k h; cases h; omega)); have R2 := Aside0.mk (blk_grown R0.out hg2 (by simp)); have c0 : w2.cell? ⟨w.heap.size, 0, none⟩ = some (.int .i64 0) := blk_cell R2.out 0; have c1 : w2.cell? ⟨w.heap.size, 1, none⟩ = some (.int .i32 0) := blk_cell R2.out 1; have c2 : w2.cell? ⟨w.heap.size, 2, none⟩ = some (.string ⟨#[]⟩) := blk_cell R2.out 2; have f0 := blk_frozen R2.out 0; have f1 := blk_frozen R2.out 1; have f2 := blk_frozen R2.out 2; have hs2 := (B2.out).size; have d0 : w2.cell? ⟨w.heap.size + 1, 0, none⟩ = some (.int .i64 y.1) := blk_cell hm2 0; have d1 : w2.cell? ⟨w.heap.size + 1, 1, none⟩ = some (.int .i32 y.2.1) := blk_cell hm2 1; have d2 : w2.cell? ⟨w.heap.size + 1, 2, none⟩ = some (.string y.2.2) := blk_cell hm2 2; clear hg2)
      exact bodyPost_ret (v := .tuple #[xOut y, .bool true]) (by simp [results, Tryd.results8, go_sem, c0, c1, c2, f0, f1, f2, hs2, xOut]) rfl ⟨by rw [HA0.out]; rfl, below_set (below_set (below_set B2.out (Nat.le_refl _)) (Nat.le_refl _)) (Nat.le_refl _)⟩
set_option maxRecDepth 100000 in
theorem impl_none (Ao : Option Addr) (cap : Nat) (w : World) (hge : GErr w) (hao : Ao = none ∨ ∃ a, Ao = some a) :
    Calls Tryd.prog 8 #[.slice Ao 0 cap] w fun e w' => e = .returned (.tuple #[xOut x0, .bool true]) ∧ Below w.heap.size w w' := by
  have mixed : Tryd.prog.follows .mixedOrders = true := by kernel_rfl
  have hu1 := Tryd.underlying51
  have hu2 := Tryd.underlying24
  have hu3 := Tryd.underlying22
  obtain ⟨i0, hi, hz0, hz1, hz2⟩ := info_parts (show (Tryd.prog.info? 5).map (fun i => (i.zero, i.size, i.bytes)) = some (some (.int .u8 0), 1, 1) by kernel_rfl)
  have HG := Aside0.mk hge
  clear hge
  rcases hao with rfl | ⟨a, rfl⟩
  · go_enter Tryd.func8, Tryd.ntmps8
    go_wp2
    refine wp_loop_rounds 1 ?_
    rw [rounds_succ]
    go_wp2
    exact bodyPost_ret (v := .tuple #[xOut x0, .bool true]) (by simp [results, Tryd.results8, go_sem, xOut, x0]) rfl ⟨rfl, by repeat (first | exact Below.refl _ _ | apply below_alloc | apply below_set | apply pw_below_drewN | apply below_drew1 | exact Nat.le_refl _)⟩
  · go_enter Tryd.func8, Tryd.ntmps8
    go_wp2
    refine wp_loop_rounds 1 ?_
    rw [rounds_succ]
    go_wp2
    exact bodyPost_ret (v := .tuple #[xOut x0, .bool true]) (by simp [results, Tryd.results8, go_sem, xOut, x0]) rfl ⟨rfl, by repeat (first | exact Below.refl _ _ | apply below_alloc | apply below_set | apply pw_below_drewN | apply below_drew1 | exact Nat.le_refl _)⟩
end Go.Proofs.YtihlmkgffifknaaDoor.Read
