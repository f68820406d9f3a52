/- Versions: what the reference makes of a step, walked. -/
import Derived.Test.YtomoefldmgfaoaaDoorPvSa
import Derived.Test.YtomoefldmgfaoaaDoorPFnVersionStepsx1
import Derived.Deep.RegionHeld3
import Derived.Deep.RegionLawGrows
set_option linter.unusedVariables false
set_option linter.unusedSimpArgs false
namespace Go.Proofs.YtomoefldmgfaoaaDoor.Pv.SFnVersionSteps
open Go Go.RowKit Go.Proofs.YtomoefldmgfaoaaDoor Go.Proofs.YtomoefldmgfaoaaDoorW.PrintWords Go.Proofs.YtomoefldmgfaoaaDoor.PFnVersionSteps Go.Proofs.YtomoefldmgfaoaaDoor.Txt Go.Proofs.YtomoefldmgfaoaaDoor.Small Go.Proofs.YtomoefldmgfaoaaDoor.Pv

abbrev boxV (A : Option Addr) (n c : Nat) (sem : Bool) (p b : ByteArray) : Obj := .cells #[.slice A n c, .bool sem, .string p, .string b] 26 (0, 0)
abbrev boxX (d : Int) (u : Nat) (off : Int) (s : ByteArray) : Obj := .cells #[.int .i64 d, .int .u64 (u : Int), .int .i64 off, .string s] 47 (0, 0)
theorem partZ (ns : List Nat) (sem : Bool) (p b : ByteArray) (i : Nat) : spec_Version_part.f (zs ns) sem p b (i : Int) = some (pt ns i : Int) := by
  unfold spec_Version_part.f
  by_cases h : i < ns.length
  · rw [if_pos (by rw [List.length_map]; omega), if_pos (by omega)]
    unfold rd
    rw [Int.toNat_natCast, List.getD_eq_getElem?_getD, List.getElem?_map, List.getElem?_eq_getElem h, pt_at h]; rfl
  · rw [if_neg (by rw [List.length_map]; omega), pt_no (by omega)]; rfl
/-- The world behind the head of the call: the version, the step, the result's place. -/
structure AtS (w W : World) (A : Option Addr) (c : Nat) (ns : List Nat) (sem : Bool) (p b : ByteArray) (d : Int) (u : Nat) (off : Int) (s : ByteArray) : Prop where
  r2 : W.heap[w.heap.size]? = some (boxV A ns.length c sem p b)
  r3 : W.heap[w.heap.size + 1]? = some (boxX d u off s)
  r4 : W.heap[w.heap.size + 1 + 1]? = some (boxV none 0 0 false ⟨#[]⟩ ⟨#[]⟩)
  bel : Below w.heap.size w W
  row : Kd.C (Kd.int .u64) W A (zs ns).length (zs ns)
theorem AtS.below {w W W' : World} {A : Option Addr} {c : Nat} {ns : List Nat} {sem : Bool} {p b : ByteArray} {d : Int} {u : Nat} {off : Int} {s : ByteArray} (h : AtS w W A c ns sem p b d u off s) (hb : Below W.heap.size W W') : AtS w W' A c ns sem p b d u off s :=
  ⟨blk_below h.r2 hb, blk_below h.r3 hb, blk_below h.r4 hb, below_step h.bel hb, Kd.C_below h.row hb⟩
theorem AtS.drew {w W : World} {A : Option Addr} {c : Nat} {ns : List Nat} {sem : Bool} {p b : ByteArray} {d : Int} {u : Nat} {off : Int} {s : ByteArray} (h : AtS w W A c ns sem p b d u off s) : AtS w W.drew A c ns sem p b d u off s := h.below (below_drew1 (Below.refl _ _))
theorem AtS.start (w : World) {A : Option Addr} {c : Nat} {ns : List Nat} {sem : Bool} {p b : ByteArray} {d : Int} {u : Nat} {off : Int} {s : ByteArray} (hr : Kd.C (Kd.int .u64) w A (zs ns).length (zs ns)) : AtS w (((w.alloc (boxV A ns.length c sem p b)).alloc (boxX d u off s)).alloc (boxV none 0 0 false ⟨#[]⟩ ⟨#[]⟩)) A c ns sem p b d u off s :=
  ⟨blk_alloc (blk_alloc (blk_new w _) _) _, blk_alloc (new2 w _ _) _, by have := blk_new ((w.alloc (boxV A ns.length c sem p b)).alloc (boxX d u off s)) (boxV none 0 0 false ⟨#[]⟩ ⟨#[]⟩); simpa using this, by repeat (first | exact Below.refl _ _ | apply below_alloc), Kd.C_below hr (by repeat (first | exact Below.refl _ _ | apply below_alloc))⟩
/-- A number's row read cell by cell. -/
theorem row_cells {w : World} {A : Option Addr} {ns : List Nat} (h : Kd.C (Kd.int .u64) w A (zs ns).length (zs ns)) (h0 : 0 < ns.length) : ∃ ad, A = some ad ∧ ∀ (j : Nat) (u : Value), (encs (Value.int .u64) (zs ns))[j]? = some u → w.cell? (ad.add j) = some u := by
  obtain ⟨ad, c, e, _, hK, hc⟩ := Kd.C_get h (0 : Int) 0 (by omega) (by rw [List.length_map]; omega)
  refine ⟨ad, e, fun j u hj => ?_⟩
  have hjl : j < (zs ns).length := by have := (List.getElem?_eq_some_iff.1 hj).1; rwa [encs_length] at this
  obtain ⟨ad2, c2, e2, _, hK2, hc2⟩ := Kd.C_get h (0 : Int) (j : Int) (by omega) (by omega)
  rw [e] at e2
  cases e2
  have hK3 : c2 = [.int .u64 ((zs ns).getD j 0)] := hK2
  subst hK3
  have hq := hc2 0 _ rfl
  rw [Int.toNat_natCast, show j * (Kd.int .u64).sz + 0 = j from Nat.mul_one j] at hq
  rw [encs_get (d := 0) _ _ hjl] at hj
  obtain rfl := Option.some.inj hj
  exact hq
theorem grown_form {w' : World} {base : Nat} {v' : Value} {ns : List Nat} (hns : 0 < ns.length) (hown : w'.ownsRow base 22 1 v' (0 + ns.length) ([] ++ encs (Value.int .u64) (zs ns))) : ∃ bc cp, v' = .slice (some ⟨bc, 0, none⟩) ns.length cp ∧ OwnR w' base (fun _ => True) v' (zs ns) := by
  have hown' : w'.ownsRow base 22 1 v' (zs ns).length (encs (Value.int .u64) (zs ns)) := by
    rw [List.length_map]
    simpa using hown
  have hR : OwnR w' base (fun _ => True) v' (zs ns) := Kd.R_of_own (h1 := fun _ => rfl) hown' (fun _ _ => trivial)
  obtain ⟨bc, cp, e9, -, -, -⟩ := Kd.R_form hR (by rw [List.length_map]; exact hns)
  rw [List.length_map] at e9
  exact ⟨bc, cp, e9, hR⟩
theorem row_end {w' : World} {e base : Nat} {ok : Nat → Prop} {A' : Option Addr} {n cp : Nat} {xs ys : List Int} (h : Kd.R (Kd.int .u64) e w' base ok (.slice A' n cp) xs) (hy : ys = xs) : Kd.C (Kd.int .u64) w' A' ys.length ys ∧ ys.length ≤ cp := by
  subst hy
  obtain ⟨h1, h2, h3⟩ := Kd.R_reads' h
  exact ⟨h3, h1 ▸ h2⟩
theorem encs_one {ns : List Nat} : ∀ u ∈ encs (Value.int .u64) (zs ns), u.oneCell' = true := fun u hu => by
  unfold encs at hu
  obtain ⟨x, -, rfl⟩ := List.mem_map.1 hu
  rfl
end Go.Proofs.YtomoefldmgfaoaaDoor.Pv.SFnVersionSteps
