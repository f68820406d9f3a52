/- Versions: a version as data. -/
import Derived.Test.YtomoefldmgfaoaaDoorPvR
import Derived.ArgAppend
set_option linter.unusedVariables false
set_option linter.unusedSimpArgs false
namespace Go.Proofs.YtomoefldmgfaoaaDoor.Pv
open Go Go.RowKit Go.Proofs.YtomoefldmgfaoaaDoor Go.Proofs.YtomoefldmgfaoaaDoorW.PrintWords Go.Proofs.YtomoefldmgfaoaaDoor.PvH Go.Proofs.YtomoefldmgfaoaaDoor.Txt Go.Proofs.YtomoefldmgfaoaaDoor.Small

/-- A component; 0, if there is none. -/
def pt (ns : List Nat) (i : Nat) : Nat := ns.getD i 0
abbrev zs (ns : List Nat) : List Int := ns.map fun n : Nat => (n : Int)
theorem pt_at {ns : List Nat} {k : Nat} (h : k < ns.length) : pt ns k = ns[k] := by unfold pt; rw [List.getD_eq_getElem?_getD, List.getElem?_eq_getElem h]; rfl
theorem pt_no {ns : List Nat} {k : Nat} (h : ns.length ≤ k) : pt ns k = 0 := by unfold pt; rw [List.getD_eq_getElem?_getD, List.getElem?_eq_none h]; rfl
theorem ver_pt {w : World} {g c : Nat} {ns : List Nat} {sem : Bool} {p b : ByteArray} (h : IsVer w g c ns sem p b) (k : Nat) (hk : k < ns.length) : w.cell? ⟨c, k, none⟩ = some (.int .u64 (pt ns k : Int)) := by rw [pt_at hk]; exact ver_at h k hk
abbrev zero28 : Obj := .cells #[.bool false, .slice none 0 0, .string ⟨#[]⟩, .string ⟨#[]⟩, .string ⟨#[]⟩, .int .u64 0, .int .u64 0, .int .u64 0] 28 (0, 0)
set_option maxRecDepth 100000 in
theorem comp_calls (g c : Nat) (ns : List Nat) (sem : Bool) (p b : ByteArray) (w : World) (hv : IsVer w g c ns sem p b) : Calls Tryd.prog 59 #[.pointer (some ⟨g, 0, none⟩)] w fun e w' => e = .returned (.slice (some ⟨c, 0, none⟩) ns.length ns.length) ∧ w' = w := by
  have hu1 := Tryd.underlying90
  have k0 : w.cell? ⟨g, 0, none⟩ = some (.slice (some ⟨c, 0, none⟩) ns.length ns.length) := blk_cell hv.1 0
  have k2 : w.cell? ⟨g, 2, none⟩ = some (.string p) := blk_cell hv.1 2
  have k3 : w.cell? ⟨g, 3, none⟩ = some (.string b) := blk_cell hv.1 3
  go_enter Tryd.func59, Tryd.ntmps59
  go_wp2
  go_ret
  exact ⟨rfl, rfl⟩
set_option maxRecDepth 100000 in
theorem pre_calls (g c : Nat) (ns : List Nat) (sem : Bool) (p b : ByteArray) (w : World) (hv : IsVer w g c ns sem p b) : Calls Tryd.prog 60 #[.pointer (some ⟨g, 0, none⟩)] w fun e w' => e = .returned (.string p) ∧ w' = w := by
  have hu1 := Tryd.underlying90
  have k0 : w.cell? ⟨g, 0, none⟩ = some (.slice (some ⟨c, 0, none⟩) ns.length ns.length) := blk_cell hv.1 0
  have k2 : w.cell? ⟨g, 2, none⟩ = some (.string p) := blk_cell hv.1 2
  have k3 : w.cell? ⟨g, 3, none⟩ = some (.string b) := blk_cell hv.1 3
  go_enter Tryd.func60, Tryd.ntmps60
  go_wp2
  go_ret
  exact ⟨rfl, rfl⟩
set_option maxRecDepth 100000 in
theorem build_calls (g c : Nat) (ns : List Nat) (sem : Bool) (p b : ByteArray) (w : World) (hv : IsVer w g c ns sem p b) : Calls Tryd.prog 61 #[.pointer (some ⟨g, 0, none⟩)] w fun e w' => e = .returned (.string b) ∧ w' = w := by
  have hu1 := Tryd.underlying90
  have k0 : w.cell? ⟨g, 0, none⟩ = some (.slice (some ⟨c, 0, none⟩) ns.length ns.length) := blk_cell hv.1 0
  have k2 : w.cell? ⟨g, 2, none⟩ = some (.string p) := blk_cell hv.1 2
  have k3 : w.cell? ⟨g, 3, none⟩ = some (.string b) := blk_cell hv.1 3
  go_enter Tryd.func61, Tryd.ntmps61
  go_wp2
  go_ret
  exact ⟨rfl, rfl⟩
set_option maxRecDepth 100000 in
theorem major_calls (g c : Nat) (ns : List Nat) (sem : Bool) (p b : ByteArray) (w : World) (hv : IsVer w g c ns sem p b) (h2 : 2 ≤ ns.length) : Calls Tryd.prog 63 #[.pointer (some ⟨g, 0, none⟩)] w fun e w' => e = .returned (.int .u64 (pt ns 0 : Int)) ∧ w' = w := by
  have hu1 := Tryd.underlying90
  have k0 : w.cell? ⟨g, 0, none⟩ = some (.slice (some ⟨c, 0, none⟩) ns.length ns.length) := blk_cell hv.1 0
  have k2 : w.cell? ⟨g, 2, none⟩ = some (.string p) := blk_cell hv.1 2
  have k3 : w.cell? ⟨g, 3, none⟩ = some (.string b) := blk_cell hv.1 3
  have q0 : ((0 : Int) < (ns.length : Int)) = True := eq_true (by omega)
  have d0 : w.cell? ⟨c, 0, none⟩ = some (.int .u64 (pt ns 0 : Int)) := ver_pt hv 0 (by omega)
  have q00 : (0 < ns.length) = True := eq_true (by omega)
  go_enter Tryd.func63, Tryd.ntmps63
  go_wp2
  go_ret
  exact ⟨rfl, rfl⟩
set_option maxRecDepth 100000 in
theorem minor_calls (g c : Nat) (ns : List Nat) (sem : Bool) (p b : ByteArray) (w : World) (hv : IsVer w g c ns sem p b) (h2 : 2 ≤ ns.length) : Calls Tryd.prog 64 #[.pointer (some ⟨g, 0, none⟩)] w fun e w' => e = .returned (.int .u64 (pt ns 1 : Int)) ∧ w' = w := by
  have hu1 := Tryd.underlying90
  have k0 : w.cell? ⟨g, 0, none⟩ = some (.slice (some ⟨c, 0, none⟩) ns.length ns.length) := blk_cell hv.1 0
  have k2 : w.cell? ⟨g, 2, none⟩ = some (.string p) := blk_cell hv.1 2
  have k3 : w.cell? ⟨g, 3, none⟩ = some (.string b) := blk_cell hv.1 3
  have q1 : ((1 : Int) < (ns.length : Int)) = True := eq_true (by omega)
  have d1 : w.cell? ⟨c, 1, none⟩ = some (.int .u64 (pt ns 1 : Int)) := ver_pt hv 1 (by omega)
  have q10 : (1 < ns.length) = True := eq_true (by omega)
  go_enter Tryd.func64, Tryd.ntmps64
  go_wp2
  go_ret
  exact ⟨rfl, rfl⟩
set_option maxRecDepth 100000 in
theorem patchY_calls (g c : Nat) (ns : List Nat) (sem : Bool) (p b : ByteArray) (w : World) (hv : IsVer w g c ns sem p b) (h3 : 3 ≤ ns.length) : Calls Tryd.prog 65 #[.pointer (some ⟨g, 0, none⟩)] w fun e w' => e = .returned (.int .u64 (pt ns 2 : Int)) ∧ w' = w := by
  have hu1 := Tryd.underlying90
  have k0 : w.cell? ⟨g, 0, none⟩ = some (.slice (some ⟨c, 0, none⟩) ns.length ns.length) := blk_cell hv.1 0
  have k2 : w.cell? ⟨g, 2, none⟩ = some (.string p) := blk_cell hv.1 2
  have k3 : w.cell? ⟨g, 3, none⟩ = some (.string b) := blk_cell hv.1 3
  have q2 : ((2 : Int) < (ns.length : Int)) = True := eq_true (by omega)
  have d2 : w.cell? ⟨c, 2, none⟩ = some (.int .u64 (pt ns 2 : Int)) := ver_pt hv 2 (by omega)
  have q20 : (2 < ns.length) = True := eq_true (by omega)
  have q3 : ((ns.length : Int) < 3) = False := eq_false (by omega)
  have q4 : decide ((ns.length : Int) < 3) = false := decide_eq_false (by omega)
  go_enter Tryd.func65, Tryd.ntmps65
  go_wp2
  go_ret
  exact ⟨rfl, rfl⟩
set_option maxRecDepth 100000 in
theorem patchN_calls (g c : Nat) (ns : List Nat) (sem : Bool) (p b : ByteArray) (w : World) (hv : IsVer w g c ns sem p b) (h3 : ns.length < 3) : Calls Tryd.prog 65 #[.pointer (some ⟨g, 0, none⟩)] w fun e w' => e = .returned (.int .u64 0) ∧ w' = w := by
  have hu1 := Tryd.underlying90
  have k0 : w.cell? ⟨g, 0, none⟩ = some (.slice (some ⟨c, 0, none⟩) ns.length ns.length) := blk_cell hv.1 0
  have k2 : w.cell? ⟨g, 2, none⟩ = some (.string p) := blk_cell hv.1 2
  have k3 : w.cell? ⟨g, 3, none⟩ = some (.string b) := blk_cell hv.1 3
  have q3 : ((ns.length : Int) < 3) = True := eq_true (by omega)
  have q4 : decide ((ns.length : Int) < 3) = true := decide_eq_true (by omega)
  go_enter Tryd.func65, Tryd.ntmps65
  go_wp2
  go_ret
  exact ⟨rfl, rfl⟩
theorem patch_calls (g c : Nat) (ns : List Nat) (sem : Bool) (p b : ByteArray) (w : World) (hv : IsVer w g c ns sem p b) : Calls Tryd.prog 65 #[.pointer (some ⟨g, 0, none⟩)] w fun e w' => e = .returned (.int .u64 (pt ns 2 : Int)) ∧ w' = w := by
  by_cases h3 : 3 ≤ ns.length
  · exact patchY_calls g c ns sem p b w hv h3
  · have := patchN_calls g c ns sem p b w hv (by omega)
    rw [pt_no (by omega)]; exact this
/-- A version as data. -/
abbrev verOut (v0 : Value) (ns : List Nat) (p b : Bs) : Value := .agg #[.bool true, v0, .string (mk p), .string (mk b), .string (mk (vtxt ns p b)), .int .u64 (pt ns 0 : Int), .int .u64 (pt ns 1 : Int), .int .u64 (pt ns 2 : Int)]
abbrev verNil : Value := .agg #[.bool false, .slice none 0 0, .string ⟨#[]⟩, .string ⟨#[]⟩, .string ⟨#[]⟩, .int .u64 0, .int .u64 0, .int .u64 0]
abbrev OwnR (w : World) (base : Nat) (ok : Nat → Prop) (v : Value) (l : List Int) : Prop := Kd.R (Kd.int .u64) 22 w base ok v l
set_option maxHeartbeats 12800000 in
set_option maxRecDepth 100000 in
theorem ver_calls (g c : Nat) (ns : List Nat) (sem : Bool) (p b : Bs) (h2 : 2 ≤ ns.length) (hns : ∀ n ∈ ns, n < 18446744073709551616) (hl : ns.length ≤ 1099511627776) (hp : p.length ≤ 1099511627776) (hb : b.length ≤ 1099511627776) (w : World) (hv : IsVer w g c ns sem (mk p) (mk b)) (hg : Good w) :
    Calls Tryd.prog 29 #[.pointer (some ⟨g, 0, none⟩), .nilIface] w fun e w' => ∃ v0, e = .returned (verOut v0 ns p b) ∧ OwnR w' w.heap.size (fun _ => True) v0 (zs ns) ∧ Below w.heap.size w w' := by
  have mixed : Tryd.prog.follows .mixedOrders = true := by kernel_rfl
  have hu1 := Tryd.underlying90
  have hu2 := Tryd.underlying28
  obtain ⟨i0, hi, hz0, hz1, hz2⟩ := info_parts (show (Tryd.prog.info? 22).map (fun i => (i.zero, i.size, i.bytes)) = some (some (.int .u64 0), 1, 8) by kernel_rfl)
  have HG := Aside0.mk hg
  have HV := Aside0.mk hv
  have H2 := Aside0.mk h2
  have HL := Aside0.mk hl
  have HS := Aside0.mk (fun w hv hg => str_calls g c ns sem p b hns hl hp hb w hv hg)
  have k0 : w.cell? ⟨g, 0, none⟩ = some (.slice (some ⟨c, 0, none⟩) ns.length ns.length) := blk_cell hv.1 0
  have hgl : g < w.heap.size := blk_lt hv.1
  have hcl : c < w.heap.size := blk_lt hv.2
  clear hg hv hns hl hp hb h2
  go_enter Tryd.func29, Tryd.ntmps29
  have B0 : Aside0 (Below w.heap.size w ((w.alloc zero28).alloc (.cells #[] 22))) := ⟨by repeat (first | exact Below.refl _ _ | apply below_alloc | apply pw_below_drewN | apply below_drew1)⟩
  have V0 := Aside0.mk (HV.out.below B0.out)
  clear k0
  go_wp2_with (first
    | (go_at_call 59; (with_reducible refine (comp_calls g c ns sem (mk p) (mk b) _ V0.out).mono ?_); rintro e w0 ⟨rfl, rfl⟩)
    | (at_builtin; refine wpList_append_grows _ rfl (.tmp 12) (.tmp 14) 24 rfl 22 i0 (.int .u64 0) 1 8 Tryd.underlying24 hi hz0 hz1 hz2 rfl (by decide) _ 0 0 [] rfl (fun _ => ⟨rfl, rfl⟩) rfl (by intro _ _ _ _ h; simp at h) ⟨c, 0, none⟩ ns.length ns.length (encs (Value.int .u64) (zs ns)) rfl ?c0 ?c1 ?c2 ?c3 ?c4 ?c5 ?grow))
  case c0 => rw [encs_length, List.length_map]; omega
  case c1 =>
    intro j u hj
    rw [Addr.add_lit]
    by_cases hjl : j < ns.length
    · rw [encs_get (d := 0) _ _ (by rw [List.length_map]; exact hjl)] at hj
      have e1 : (zs ns).getD j 0 = (pt ns j : Int) := by
        rw [pt_at hjl, List.getD_eq_getElem?_getD, List.getElem?_map, List.getElem?_eq_getElem hjl]; rfl
      rw [e1] at hj
      obtain rfl := Option.some.inj hj
      have := ver_pt V0.out j hjl
      simpa using this
    · rw [List.getElem?_eq_none (by rw [encs_length, List.length_map]; omega)] at hj; cases hj
  case c2 =>
    intro u hu
    unfold encs at hu
    obtain ⟨x, -, rfl⟩ := List.mem_map.1 hu
    rfl
  case c3 => have := H2.out; omega
  case c4 => have := HL.out; unfold maxLen; omega
  case c5 => have := HL.out; omega
  case grow =>
    intro v1 w1 hown hgrow
    have hown' : w1.ownsRow (((w.alloc zero28).alloc (.cells #[] 22)).heap.size) 22 1 v1 (zs ns).length (encs (Value.int .u64) (zs ns)) := by
      rw [List.length_map]
      simpa using hown
    have hne : ∀ k, v1.ownBlock = some k → k ≠ w.heap.size := fun k hk => by
      have := own_base hown' k hk
      simp at this; omega
    have hR : OwnR w1 w.heap.size (fun k => k ≠ w.heap.size) v1 (zs ns) := Kd.R_lower (Kd.R_of_own (h1 := fun _ => rfl) hown' hne) (by simp; omega)
    obtain ⟨bc, cp, e9, -, -, -⟩ := Kd.R_form hR (by rw [List.length_map]; have := H2.out; omega)
    subst e9
    have B1 : Aside0 (Below w.heap.size w w1) := ⟨pw_below_grown B0.out none B0.out.size hgrow (by intro k h; cases h)⟩
    have V1 := Aside0.mk (HV.out.below B1.out)
    have R1 : Aside0 (w1.heap[w.heap.size]? = some zero28) := ⟨blk_grown (blk_alloc (blk_new w zero28) _) hgrow (by simp)⟩
    have T1 := Aside0.mk hR
    clear hown hown' hgrow hne hR
    go_wp2_with (first
      | (go_at_call 60; (with_reducible refine (pre_calls g c ns sem (mk p) (mk b) _ V1.out).mono ?_); rintro e w0 ⟨rfl, rfl⟩)
      | (go_at_call 61; (with_reducible refine (build_calls g c ns sem (mk p) (mk b) _ V1.out).mono ?_); rintro e w0 ⟨rfl, rfl⟩)
      | (go_at_call 62; (with_reducible refine (HS.out _ V1.out (HG.out.below B1.out)).mono ?_); rintro e w2 ⟨rfl, hb⟩; have B2 := Aside0.mk (below_step B1.out hb); have V2 := Aside0.mk (V1.out.below hb); have T2 := Aside0.mk (Kd.R_below T1.out hb); have R2 := Aside0.mk (blk_below R1.out hb); have c0 : w2.cell? ⟨w.heap.size, 0, none⟩ = some (.bool false) := blk_cell R2.out 0; have f0 := blk_frozen R2.out 0; have c1 : w2.cell? ⟨w.heap.size, 1, none⟩ = some (.slice none 0 0) := blk_cell R2.out 1; have f1 := blk_frozen R2.out 1; have c2 : w2.cell? ⟨w.heap.size, 2, none⟩ = some (.string ⟨#[]⟩) := blk_cell R2.out 2; have f2 := blk_frozen R2.out 2; have c3 : w2.cell? ⟨w.heap.size, 3, none⟩ = some (.string ⟨#[]⟩) := blk_cell R2.out 3; have f3 := blk_frozen R2.out 3; have c4 : w2.cell? ⟨w.heap.size, 4, none⟩ = some (.string ⟨#[]⟩) := blk_cell R2.out 4; have f4 := blk_frozen R2.out 4; have c5 : w2.cell? ⟨w.heap.size, 5, none⟩ = some (.int .u64 0) := blk_cell R2.out 5; have f5 := blk_frozen R2.out 5; have c6 : w2.cell? ⟨w.heap.size, 6, none⟩ = some (.int .u64 0) := blk_cell R2.out 6; have f6 := blk_frozen R2.out 6; have c7 : w2.cell? ⟨w.heap.size, 7, none⟩ = some (.int .u64 0) := blk_cell R2.out 7; have f7 := blk_frozen R2.out 7; have hs2 := (B2.out).size; clear hb)
      | (go_at_call 63; (with_reducible refine (major_calls g c ns sem (mk p) (mk b) _ V2.out H2.out).mono ?_); rintro e w0 ⟨rfl, rfl⟩)
      | (go_at_call 64; (with_reducible refine (minor_calls g c ns sem (mk p) (mk b) _ V2.out H2.out).mono ?_); rintro e w0 ⟨rfl, rfl⟩)
      | (go_at_call 65; (with_reducible refine (patch_calls g c ns sem (mk p) (mk b) _ V2.out).mono ?_); rintro e w0 ⟨rfl, rfl⟩))
    refine bodyPost_ret (v := verOut (.slice (some ⟨bc, 0, none⟩) (zs ns).length cp) ns p b) (by simp [results, Tryd.results29, go_sem, c0, f0, c1, f1, c2, f2, c3, f3, c4, f4, c5, f5, c6, f6, c7, f7, hs2, verOut]) rfl ⟨_, rfl, ?_, ?_⟩
    · refine Kd.R_mono (ok := fun k => k ≠ w.heap.size) ?_ (fun _ _ => trivial)
      repeat (first | (with_reducible exact T2.out) | refine Kd.R_far ?_ (fun _ h => h) _)
    · repeat (first | (with_reducible exact B2.out) | refine below_set ?_ (Nat.le_refl _))
end Go.Proofs.YtomoefldmgfaoaaDoor.Pv
