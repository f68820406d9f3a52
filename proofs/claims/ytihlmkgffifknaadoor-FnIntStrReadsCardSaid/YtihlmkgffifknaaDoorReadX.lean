/- The reader of the fields: what the fields are, and the reference's walk. -/
import Derived.Test.YtihlmkgffifknaaDoorReadW
import Derived.Lib.EndianBits
import Derived.Laws.BytesArg
set_option linter.unusedVariables false
set_option linter.unusedSimpArgs false
namespace Go.Proofs.YtihlmkgffifknaaDoor.Read
open Go Go.Sort Go.RowKit Go.Proofs.YtihlmkgffifknaaDoorW.PrintWords

theorem u64_range (n : Int) : 0 ≤ IntKind.u64.wrap n ∧ IntKind.u64.wrap n < 18446744073709551616 := by rw [IntKind.wrap_u64]; omega
theorem vacc_range (x : Int) (i : Nat) (c : Int) : 0 ≤ vacc x i c ∧ vacc x i c < 18446744073709551616 := u64_range _
theorem rv_range : ∀ (zs : List Int) (i : Nat) (x : Int) (v : Int) (k : Nat), rv i x zs = some (v, k) → (0 ≤ v ∧ v < 18446744073709551616) ∧ i < k ∧ k ≤ i + zs.length
  | [], _, _, _, _, h => by simp [rv] at h
  | c :: cs, i, x, v, k, h => by
    rw [rv] at h
    split at h
    · cases h
    · split at h
      · injection h with h; injection h with h1 h2
        subst h1; subst h2
        exact ⟨vacc_range _ _ _, by omega, by simp⟩
      · have := rv_range cs (i + 1) _ v k h
        rw [List.length_cons]
        exact ⟨this.1, by omega, by omega⟩

abbrev St := Int × Int × ByteArray
/-- What the next field does: nothing is said of it; it is bad; or so many bytes are read and the value is this. -/
inductive Stp | left | bad | on (k : Nat) (x : St)
abbrev txtOf (l : List Int) : ByteArray := strOfNums l
/-- A field that is a number. -/
def fldN (zs : List Int) (x : St) (tag : Int) (k : Nat) : Stp := match rv 0 0 (zs.drop k) with
  | none => .bad
  | some (n, j) => .on (k + j) (if tag / 8 = 1 then (wrap64 n, x.2.1, x.2.2) else if tag / 8 = 2 then (x.1, wrap32 n, x.2.2) else x)
/-- A field that is a text. -/
def fldS (zs : List Int) (x : St) (tag : Int) (k : Nat) : Stp := match rv 0 0 (zs.drop k) with
  | none => .bad
  | some (n, j) => if n ≤ ((zs.length - k - j : Nat) : Int) then .on (k + j + n.toNat) (if tag / 8 = 3 then (x.1, x.2.1, txtOf (((zs.drop (k + j)).take n.toNat))) else x) else .bad
def fldT (zs : List Int) (x : St) (tag : Int) (k : Nat) : Stp :=
  if tag % 8 = 3 ∨ tag % 8 = 4 ∨ 5 < tag % 8 ∨ tag / 8 = 0 ∨ 268435456 < tag / 8 then .left
  else if tag / 8 ≤ 3 ∧ ¬ ((tag / 8 = 1 ∧ tag % 8 = 0) ∨ (tag / 8 = 2 ∧ tag % 8 = 0) ∨ (tag / 8 = 3 ∧ tag % 8 = 2)) then .bad
  else if tag % 8 = 0 then fldN zs x tag k
  else if tag % 8 = 1 then (if (8 : Int) ≤ ((zs.length - k : Nat) : Int) then .on (k + 8) x else .bad)
  else if tag % 8 = 5 then (if (4 : Int) ≤ ((zs.length - k : Nat) : Int) then .on (k + 4) x else .bad)
  else fldS zs x tag k
def fld (zs : List Int) (x : St) : Stp := match rv 0 0 zs with
  | none => .bad
  | some (tag, k) => fldT zs x tag k
theorem fldN_some {zs : List Int} {tag n : Int} {k j : Nat} (h : rv 0 0 (zs.drop k) = some (n, j)) (x : St) : fldN zs x tag k = .on (k + j) (if tag / 8 = 1 then (wrap64 n, x.2.1, x.2.2) else if tag / 8 = 2 then (x.1, wrap32 n, x.2.2) else x) := by unfold fldN; rw [h]
theorem fldS_some {zs : List Int} {tag n : Int} {k j : Nat} (h : rv 0 0 (zs.drop k) = some (n, j)) (x : St) : fldS zs x tag k = if n ≤ ((zs.length - k - j : Nat) : Int) then .on (k + j + n.toNat) (if tag / 8 = 3 then (x.1, x.2.1, txtOf (((zs.drop (k + j)).take n.toNat))) else x) else .bad := by unfold fldS; rw [h]
theorem fld_some {zs : List Int} {v : Int} {k : Nat} (h : rv 0 0 zs = some (v, k)) (x : St) : fld zs x = fldT zs x v k := by unfold fld; rw [h]
/-- All fields. -/
inductive Res | left | bad | ok (x : St)
def all : Nat → List Int → St → Res
  | 0, _, _ => .left
  | _ + 1, [], x => .ok x
  | m + 1, c :: cs, x => match fld (c :: cs) x with
    | .left => .left
    | .bad => .bad
    | .on k y => all m ((c :: cs).drop k) y
theorem all_cons {zs : List Int} (h : 0 < zs.length) (m : Nat) (x : St) : all (m + 1) zs x = match fld zs x with
    | .left => .left
    | .bad => .bad
    | .on k y => all m (zs.drop k) y := by
  cases zs with
  | nil => simp at h
  | cons c cs => rfl
def xOut (x : St) : Value := .agg #[.int .i64 x.1, .int .i32 x.2.1, .string x.2.2]
def x0 : St := (0, 0, ⟨#[]⟩)
def allOut : Res → Value
  | .left => .tuple #[xOut x0, .bool false, .bool false]
  | .bad => .tuple #[xOut x0, .bool false, .bool true]
  | .ok x => .tuple #[xOut x, .bool true, .bool true]
def lenOf : Value → Nat | .slice _ n _ => n | _ => 0
def cellsX (x : St) : Obj := .cells #[.int .i64 x.1, .int .i32 x.2.1, .string x.2.2] 24 (0, 0)
def Here (w : World) (Ao : Option Addr) (b : Nat) (ys : List Int) : Prop := 0 < ys.length → ∃ A, Ao = some ⟨b, A, none⟩ ∧ BytesAt w b A ys

theorem BytesAt.on {w : World} {b A k : Nat} {ys : List Int} (h : BytesAt w b A (ys.drop k)) (j : Nat) : BytesAt w b (A + j) (ys.drop (k + j)) := by
  intro i hi
  rw [List.length_drop] at hi
  have := h (j + i) (by rw [List.length_drop]; omega)
  rw [Nat.add_assoc, this]
  simp [Nat.add_assoc]
theorem read_some (b A cp : Nat) (ys : List Int) (hr : Bys ys) (hmax : ys.length ≤ 2147483647) (hcap : ys.length ≤ cp) (v : Int) (k : Nat) (hv : rv 0 0 ys = some (v, k)) :
    ∃ A', (∀ w', BytesAt w' b A ys → BytesAt w' b A' (ys.drop k)) ∧ ∀ w, BytesAt w b A ys → Calls Tryd.prog 22 #[.slice (some ⟨b, A, none⟩) ys.length cp] w fun e w' => e = .returned (.tuple #[.int .u64 v, .slice (some ⟨b, A', none⟩) (ys.length - k) (cp - k), .bool true]) ∧ Below w.heap.size w w' := by
  refine ⟨_, fun w' h' => h'.drop hcap k, fun w hz => ?_⟩
  have h := read_calls b A cp ys w hz hr hmax hcap
  unfold rdOut at h
  rw [hv] at h
  exact h
theorem read_none (b A cp : Nat) (ys : List Int) (hr : Bys ys) (hmax : ys.length ≤ 2147483647) (hcap : ys.length ≤ cp) (hv : rv 0 0 ys = none) :
    ∀ w, BytesAt w b A ys → Calls Tryd.prog 22 #[.slice (some ⟨b, A, none⟩) ys.length cp] w fun e w' => e = .returned (.tuple #[.int .u64 0, .slice none 0 0, .bool false]) ∧ Below w.heap.size w w' := by
  intro w hz
  have h := read_calls b A cp ys w hz hr hmax hcap
  unfold rdOut at h
  rw [hv] at h
  exact h
theorem BytesAt.drewN {w : World} {b A : Nat} {ys : List Int} (h : BytesAt w b A ys) (n : Nat) : BytesAt (w.drewN n) b A ys := fun j hj => h j hj
theorem conv_at {w : World} {b A : Nat} {ys : List Int} (h : BytesAt w b A ys) (n cap : Nat) (hn : n ≤ ys.length) : Sem.run Tryd.prog (convert 22 9 (.slice (some ⟨b, A, none⟩) n cap)) w = .ok (.string (txtOf (ys.take n))) w :=
  run_convert_bytes_arg w _ _ Tryd.underlying22 Tryd.underlying5 b A n cap (ys.take n) (by simp; omega) (fun i hi => by rw [h i (by omega)]; simp [List.getElem?_take_of_lt hi]) _ Tryd.underlying9
theorem BytesAt.set {w : World} {b A g i : Nat} {ys : List Int} {u : Value} (h : BytesAt w b A ys) (hne : b ≠ g) : BytesAt (w.setCell ⟨g, i, none⟩ u) b A ys := fun j hj => by
  rw [cell_far (by exact hne)]; exact h j hj

set_option maxRecDepth 100000 in
set_option maxHeartbeats 4000000 in
theorem spec_calls (Ao : Option Addr) (b cap : Nat) (zs : List Int) (w : World) (hz : Here w Ao b zs) (hr : Bys zs) (hmax : zs.length ≤ 2147483647) (hcap : zs.length ≤ cap) :
    Calls Tryd.prog 7 #[.slice Ao zs.length cap] w fun e w' => e = .returned (allOut (all (zs.length + 1) zs x0)) ∧ Below w.heap.size w w' := by
  have mixed : Tryd.prog.follows .mixedOrders = true := by kernel_rfl
  have hu2 := Tryd.underlying24
  have HZ := Aside0.mk hz
  have HR := Aside0.mk hr
  clear hz hr
  go_enter Tryd.func7, Tryd.ntmps7
  go_wp2
  go_loopw [0] (fun v wr => ∃ (Ao : Option Addr) (ys : List Int) (cp : Nat) (x : St) (m : Nat), v = .slice Ao ys.length cp ∧ ys.length ≤ cp ∧ ys.length ≤ 2147483647 ∧ ys.length < m ∧ ys.length ≤ zs.length ∧ Aside0 (Bys ys) ∧ Aside0 (Here wr Ao b ys) ∧ Aside0 (all (zs.length + 1) zs x0 = all m ys x) ∧ Aside0 (wr.heap[w.heap.size]? = some (cellsX x)) ∧ Aside0 (Below w.heap.size w wr)) (fun v _ => lenOf v)
  case atStart =>
    exact ⟨Ao, zs, cap, x0, zs.length + 1, rfl, hcap, hmax, by omega, Nat.le_refl _, HR, ⟨fun h => by obtain ⟨A, h1, h2⟩ := HZ.out h; exact ⟨A, h1, h2.below (below_alloc (Below.refl _ _) _)⟩⟩, ⟨rfl⟩, ⟨blk_new w _⟩, ⟨below_alloc (Below.refl _ _) _⟩⟩
  case round =>
    obtain ⟨Ao, ys, cp, x, m, rfl, hcp, hym, hm, hyz, HY, HH, HV, HC, HB⟩ := hrel
    by_cases hlt : 0 < ys.length
    · obtain ⟨A, rfl, hA⟩ := HH.out hlt
      have HA := Aside0.mk hA
      clear hA HH
      have hblt : b < w.heap.size := by obtain ⟨A0, _, h⟩ := HZ.out (by omega); exact World.block_lt_of_cell? w _ (h 0 (by omega))
      obtain ⟨m, rfl⟩ : ∃ q, m = q + 1 := ⟨m - 1, by omega⟩
      have HV := Aside0.mk (HV.out.trans (all_cons hlt m x))
      rcases hv : rv 0 0 ys with _ | ⟨v, k⟩
      · have HW2 := Aside0.mk (read_none b A cp ys HY.out hym hcp hv)
        go_wp2_with (go_at_call 22; (with_reducible refine (HW2.out _ HA.out).mono ?_); rintro e w1 ⟨rfl, hb⟩; have B1 := Aside0.mk (below_step HB.out hb); have R1 := Aside0.mk (blk_below HC.out hb); have c0 : w1.cell? ⟨w.heap.size, 0, none⟩ = some (.int .i64 x.1) := blk_cell R1.out 0; have c1 : w1.cell? ⟨w.heap.size, 1, none⟩ = some (.int .i32 x.2.1) := blk_cell R1.out 1; have c2 : w1.cell? ⟨w.heap.size, 2, none⟩ = some (.string x.2.2) := blk_cell R1.out 2; have f0 := blk_frozen R1.out 0; have f1 := blk_frozen R1.out 1; have f2 := blk_frozen R1.out 2; have hs1 := (B1.out).size; clear hb)
        exact bodyPost_ret (v := .tuple #[xOut x0, .bool false, .bool true]) (by simp [results, Tryd.results7, go_sem, c0, c1, c2, f0, f1, f2, hs1, xOut, x0]) rfl ⟨by rw [HV.out]; unfold fld; rw [hv]; rfl, below_set (below_set (below_set B1.out (Nat.le_refl _)) (Nat.le_refl _)) (Nat.le_refl _)⟩
      · have hvr := (rv_range ys 0 0 v k hv)
        obtain ⟨⟨v0, v1⟩, k0, k1⟩ := hvr
        obtain ⟨A', hA', hW2⟩ := read_some b A cp ys HY.out hym hcp v k hv
        have HW2 := Aside0.mk hW2
        have HAA := Aside0.mk hA'
        clear hW2 hA'
        have HF := Aside0.mk (fld_some hv x)
        have HV := Aside0.mk (HV.out.trans (by rw [HF.out]))
        clear hv HF
        by_cases hL : v % 8 = 3 ∨ v % 8 = 4 ∨ 5 < v % 8 ∨ v / 8 = 0 ∨ 268435456 < v / 8
        ·
          have HE : Aside0 (all (zs.length + 1) zs x0 = .left) := ⟨HV.out.trans (by rw [fldT, if_pos hL])⟩
          clear HV
          go_wp2_with (go_at_call 22; (with_reducible refine (HW2.out _ HA.out).mono ?_); rintro e w1 ⟨rfl, hb⟩; have B1 := Aside0.mk (below_step HB.out hb); have R1 := Aside0.mk (blk_below HC.out hb); have HA1 := Aside0.mk (HA.out.below hb); have c0 : w1.cell? ⟨w.heap.size, 0, none⟩ = some (.int .i64 x.1) := blk_cell R1.out 0; have c1 : w1.cell? ⟨w.heap.size, 1, none⟩ = some (.int .i32 x.2.1) := blk_cell R1.out 1; have c2 : w1.cell? ⟨w.heap.size, 2, none⟩ = some (.string x.2.2) := blk_cell R1.out 2; have f0 := blk_frozen R1.out 0; have f1 := blk_frozen R1.out 1; have f2 := blk_frozen R1.out 2; have hsw1 := (B1.out).size; clear hb)
          all_goals exact bodyPost_ret (v := .tuple #[xOut x0, .bool false, .bool false]) (by simp [results, Tryd.results7, go_sem, c0, c1, c2, f0, f1, f2, hsw1, xOut, x0]) rfl ⟨by rw [HE.out]; rfl, below_set (below_set (below_set B1.out (Nat.le_refl _)) (Nat.le_refl _)) (Nat.le_refl _)⟩
        by_cases hL2 : v / 8 ≤ 3 ∧ ¬ ((v / 8 = 1 ∧ v % 8 = 0) ∨ (v / 8 = 2 ∧ v % 8 = 0) ∨ (v / 8 = 3 ∧ v % 8 = 2))
        ·
          have HE : Aside0 (all (zs.length + 1) zs x0 = .bad) := ⟨HV.out.trans (by rw [fldT, if_neg hL, if_pos hL2])⟩
          clear HV
          have k3 : (v % 8 == 3) = false := beq_eq_false_iff_ne.2 (by omega)
          have k4 : (v % 8 == 4) = false := beq_eq_false_iff_ne.2 (by omega)
          have k5 : (5 < v % 8) = False := eq_false (by omega)
          by_cases hF1 : v / 8 = 1
          · have kk : (v % 8 == 0) = false := beq_eq_false_iff_ne.2 (by omega)
            have bf0 : (v / 8 == 0) = false := beq_eq_false_iff_ne.2 (by omega)
            have bf1 : (v / 8 == 1) = true := beq_iff_eq.2 (by omega)
            have bf2 : (v / 8 == 2) = false := beq_eq_false_iff_ne.2 (by omega)
            have bf3 : (v / 8 == 3) = false := beq_eq_false_iff_ne.2 (by omega)
            have bf5 : (v / 8 ≤ 3) = True := eq_true (by omega)
            have bf6 : (268435456 < v / 8) = False := eq_false (by omega)
            go_wp2_with (go_at_call 22; (with_reducible refine (HW2.out _ HA.out).mono ?_); rintro e w1 ⟨rfl, hb⟩; have B1 := Aside0.mk (below_step HB.out hb); have R1 := Aside0.mk (blk_below HC.out hb); have HA1 := Aside0.mk (HA.out.below hb); have c0 : w1.cell? ⟨w.heap.size, 0, none⟩ = some (.int .i64 x.1) := blk_cell R1.out 0; have c1 : w1.cell? ⟨w.heap.size, 1, none⟩ = some (.int .i32 x.2.1) := blk_cell R1.out 1; have c2 : w1.cell? ⟨w.heap.size, 2, none⟩ = some (.string x.2.2) := blk_cell R1.out 2; have f0 := blk_frozen R1.out 0; have f1 := blk_frozen R1.out 1; have f2 := blk_frozen R1.out 2; have hsw1 := (B1.out).size; clear hb)
            all_goals exact bodyPost_ret (v := .tuple #[xOut x0, .bool false, .bool true]) (by simp [results, Tryd.results7, go_sem, c0, c1, c2, f0, f1, f2, hsw1, xOut, x0]) rfl ⟨by rw [HE.out]; rfl, below_set (below_set (below_set B1.out (Nat.le_refl _)) (Nat.le_refl _)) (Nat.le_refl _)⟩
          by_cases hF2 : v / 8 = 2
          · have kk : (v % 8 == 0) = false := beq_eq_false_iff_ne.2 (by omega)
            have bf0 : (v / 8 == 0) = false := beq_eq_false_iff_ne.2 (by omega)
            have bf1 : (v / 8 == 1) = false := beq_eq_false_iff_ne.2 (by omega)
            have bf2 : (v / 8 == 2) = true := beq_iff_eq.2 (by omega)
            have bf3 : (v / 8 == 3) = false := beq_eq_false_iff_ne.2 (by omega)
            have bf5 : (v / 8 ≤ 3) = True := eq_true (by omega)
            have bf6 : (268435456 < v / 8) = False := eq_false (by omega)
            go_wp2_with (go_at_call 22; (with_reducible refine (HW2.out _ HA.out).mono ?_); rintro e w1 ⟨rfl, hb⟩; have B1 := Aside0.mk (below_step HB.out hb); have R1 := Aside0.mk (blk_below HC.out hb); have HA1 := Aside0.mk (HA.out.below hb); have c0 : w1.cell? ⟨w.heap.size, 0, none⟩ = some (.int .i64 x.1) := blk_cell R1.out 0; have c1 : w1.cell? ⟨w.heap.size, 1, none⟩ = some (.int .i32 x.2.1) := blk_cell R1.out 1; have c2 : w1.cell? ⟨w.heap.size, 2, none⟩ = some (.string x.2.2) := blk_cell R1.out 2; have f0 := blk_frozen R1.out 0; have f1 := blk_frozen R1.out 1; have f2 := blk_frozen R1.out 2; have hsw1 := (B1.out).size; clear hb)
            all_goals exact bodyPost_ret (v := .tuple #[xOut x0, .bool false, .bool true]) (by simp [results, Tryd.results7, go_sem, c0, c1, c2, f0, f1, f2, hsw1, xOut, x0]) rfl ⟨by rw [HE.out]; rfl, below_set (below_set (below_set B1.out (Nat.le_refl _)) (Nat.le_refl _)) (Nat.le_refl _)⟩
          · have kk : (v % 8 == 2) = false := beq_eq_false_iff_ne.2 (by omega)
            have bf0 : (v / 8 == 0) = false := beq_eq_false_iff_ne.2 (by omega)
            have bf1 : (v / 8 == 1) = false := beq_eq_false_iff_ne.2 (by omega)
            have bf2 : (v / 8 == 2) = false := beq_eq_false_iff_ne.2 (by omega)
            have bf3 : (v / 8 == 3) = true := beq_iff_eq.2 (by omega)
            have bf5 : (v / 8 ≤ 3) = True := eq_true (by omega)
            have bf6 : (268435456 < v / 8) = False := eq_false (by omega)
            go_wp2_with (go_at_call 22; (with_reducible refine (HW2.out _ HA.out).mono ?_); rintro e w1 ⟨rfl, hb⟩; have B1 := Aside0.mk (below_step HB.out hb); have R1 := Aside0.mk (blk_below HC.out hb); have HA1 := Aside0.mk (HA.out.below hb); have c0 : w1.cell? ⟨w.heap.size, 0, none⟩ = some (.int .i64 x.1) := blk_cell R1.out 0; have c1 : w1.cell? ⟨w.heap.size, 1, none⟩ = some (.int .i32 x.2.1) := blk_cell R1.out 1; have c2 : w1.cell? ⟨w.heap.size, 2, none⟩ = some (.string x.2.2) := blk_cell R1.out 2; have f0 := blk_frozen R1.out 0; have f1 := blk_frozen R1.out 1; have f2 := blk_frozen R1.out 2; have hsw1 := (B1.out).size; clear hb)
            all_goals exact bodyPost_ret (v := .tuple #[xOut x0, .bool false, .bool true]) (by simp [results, Tryd.results7, go_sem, c0, c1, c2, f0, f1, f2, hsw1, xOut, x0]) rfl ⟨by rw [HE.out]; rfl, below_set (below_set (below_set B1.out (Nat.le_refl _)) (Nat.le_refl _)) (Nat.le_refl _)⟩
        have k3 : v % 8 ≠ 3 := by omega
        have k4 : v % 8 ≠ 4 := by omega
        have k5 : v % 8 ≤ 5 := by omega
        have g0 : v / 8 ≠ 0 := by omega
        have g1 : v / 8 ≤ 268435456 := by omega
        by_cases hK1 : v % 8 = 1
        ·
          have g3 : 3 < v / 8 := by omega
          have bk0 : (v % 8 == 0) = false := beq_eq_false_iff_ne.2 (by omega)
          have bk1 : (v % 8 == 1) = true := beq_iff_eq.2 (by omega)
          have bk2 : (v % 8 == 2) = false := beq_eq_false_iff_ne.2 (by omega)
          have bk3 : (v % 8 == 3) = false := beq_eq_false_iff_ne.2 (by omega)
          have bk4 : (v % 8 == 4) = false := beq_eq_false_iff_ne.2 (by omega)
          have bk5 : (v % 8 == 5) = false := beq_eq_false_iff_ne.2 (by omega)
          have bk6 : (5 < v % 8) = False := eq_false (by omega)
          have bf0 : (v / 8 == 0) = false := beq_eq_false_iff_ne.2 (by omega)
          have bf1 : (v / 8 == 1) = false := beq_eq_false_iff_ne.2 (by omega)
          have bf2 : (v / 8 == 2) = false := beq_eq_false_iff_ne.2 (by omega)
          have bf3 : (v / 8 == 3) = false := beq_eq_false_iff_ne.2 (by omega)
          have bf5 : (v / 8 ≤ 3) = False := eq_false (by omega)
          have bf6 : (268435456 < v / 8) = False := eq_false (by omega)
          by_cases h8 : (8 : Int) ≤ ((ys.length - k : Nat) : Int)
          · have HE : Aside0 (all (zs.length + 1) zs x0 = all m (ys.drop (k + 8)) x) := ⟨HV.out.trans (by rw [fldT, if_neg hL, if_neg hL2, if_neg (by omega), if_pos hK1, if_pos h8])⟩
            clear HV
            have t1 : (((8 : Int)) ≤ ((ys.length - k : Nat) : Int)) = True := eq_true h8
            have t2 : (((ys.length - k : Nat) : Int) < 8) = False := eq_false (by omega)
            have t3 : (((ys.length - k : Nat) : Int) ≤ 8) = (((ys.length - k : Nat) : Int) = 8) := propext (by omega)
            go_wp2_with (go_at_call 22; (with_reducible refine (HW2.out _ HA.out).mono ?_); rintro e w1 ⟨rfl, hb⟩; have B1 := Aside0.mk (below_step HB.out hb); have R1 := Aside0.mk (blk_below HC.out hb); have HA1 := Aside0.mk (HA.out.below hb); have c0 : w1.cell? ⟨w.heap.size, 0, none⟩ = some (.int .i64 x.1) := blk_cell R1.out 0; have c1 : w1.cell? ⟨w.heap.size, 1, none⟩ = some (.int .i32 x.2.1) := blk_cell R1.out 1; have c2 : w1.cell? ⟨w.heap.size, 2, none⟩ = some (.string x.2.2) := blk_cell R1.out 2; have f0 := blk_frozen R1.out 0; have f1 := blk_frozen R1.out 1; have f2 := blk_frozen R1.out 2; have hsw1 := (B1.out).size; clear hb)
            all_goals (go_roundw; (case rel => exact ⟨(if cp - k = 8 then some ⟨b, A', none⟩ else some ⟨b, A' + 8, none⟩), ys.drop (k + 8), cp - k - 8, x, m, (by simp; first | done | omega), (by simp; omega), (by simp; omega), (by simp; omega), (by simp; omega), ⟨HY.out.drop _⟩, ⟨fun hh => ⟨_, by rw [if_neg (by simp at hh; omega)], (HAA.out _ HA1.out).on _⟩⟩, HE, ⟨R1.out⟩, ⟨B1.out⟩⟩); (case measure => simp [lenOf]; omega))
          · have HE : Aside0 (all (zs.length + 1) zs x0 = .bad) := ⟨HV.out.trans (by rw [fldT, if_neg hL, if_neg hL2, if_neg (by omega), if_pos hK1, if_neg h8])⟩
            clear HV
            have t1 : (((8 : Int)) ≤ ((ys.length - k : Nat) : Int)) = False := eq_false h8
            have t2 : (((ys.length - k : Nat) : Int) < 8) = True := eq_true (by omega)
            go_wp2_with (go_at_call 22; (with_reducible refine (HW2.out _ HA.out).mono ?_); rintro e w1 ⟨rfl, hb⟩; have B1 := Aside0.mk (below_step HB.out hb); have R1 := Aside0.mk (blk_below HC.out hb); have HA1 := Aside0.mk (HA.out.below hb); have c0 : w1.cell? ⟨w.heap.size, 0, none⟩ = some (.int .i64 x.1) := blk_cell R1.out 0; have c1 : w1.cell? ⟨w.heap.size, 1, none⟩ = some (.int .i32 x.2.1) := blk_cell R1.out 1; have c2 : w1.cell? ⟨w.heap.size, 2, none⟩ = some (.string x.2.2) := blk_cell R1.out 2; have f0 := blk_frozen R1.out 0; have f1 := blk_frozen R1.out 1; have f2 := blk_frozen R1.out 2; have hsw1 := (B1.out).size; clear hb)
            all_goals exact bodyPost_ret (v := .tuple #[xOut x0, .bool false, .bool true]) (by simp [results, Tryd.results7, go_sem, c0, c1, c2, f0, f1, f2, hsw1, xOut, x0]) rfl ⟨by rw [HE.out]; rfl, below_set (below_set (below_set B1.out (Nat.le_refl _)) (Nat.le_refl _)) (Nat.le_refl _)⟩
        by_cases hK5 : v % 8 = 5
        ·
          have g3 : 3 < v / 8 := by omega
          have bk0 : (v % 8 == 0) = false := beq_eq_false_iff_ne.2 (by omega)
          have bk1 : (v % 8 == 1) = false := beq_eq_false_iff_ne.2 (by omega)
          have bk2 : (v % 8 == 2) = false := beq_eq_false_iff_ne.2 (by omega)
          have bk3 : (v % 8 == 3) = false := beq_eq_false_iff_ne.2 (by omega)
          have bk4 : (v % 8 == 4) = false := beq_eq_false_iff_ne.2 (by omega)
          have bk5 : (v % 8 == 5) = true := beq_iff_eq.2 (by omega)
          have bk6 : (5 < v % 8) = False := eq_false (by omega)
          have bf0 : (v / 8 == 0) = false := beq_eq_false_iff_ne.2 (by omega)
          have bf1 : (v / 8 == 1) = false := beq_eq_false_iff_ne.2 (by omega)
          have bf2 : (v / 8 == 2) = false := beq_eq_false_iff_ne.2 (by omega)
          have bf3 : (v / 8 == 3) = false := beq_eq_false_iff_ne.2 (by omega)
          have bf5 : (v / 8 ≤ 3) = False := eq_false (by omega)
          have bf6 : (268435456 < v / 8) = False := eq_false (by omega)
          by_cases h8 : (4 : Int) ≤ ((ys.length - k : Nat) : Int)
          · have HE : Aside0 (all (zs.length + 1) zs x0 = all m (ys.drop (k + 4)) x) := ⟨HV.out.trans (by rw [fldT, if_neg hL, if_neg hL2, if_neg (by omega), if_neg (by omega), if_pos hK5, if_pos h8])⟩
            clear HV
            have t1 : (((4 : Int)) ≤ ((ys.length - k : Nat) : Int)) = True := eq_true h8
            have t2 : (((ys.length - k : Nat) : Int) < 4) = False := eq_false (by omega)
            have t3 : (((ys.length - k : Nat) : Int) ≤ 4) = (((ys.length - k : Nat) : Int) = 4) := propext (by omega)
            go_wp2_with (go_at_call 22; (with_reducible refine (HW2.out _ HA.out).mono ?_); rintro e w1 ⟨rfl, hb⟩; have B1 := Aside0.mk (below_step HB.out hb); have R1 := Aside0.mk (blk_below HC.out hb); have HA1 := Aside0.mk (HA.out.below hb); have c0 : w1.cell? ⟨w.heap.size, 0, none⟩ = some (.int .i64 x.1) := blk_cell R1.out 0; have c1 : w1.cell? ⟨w.heap.size, 1, none⟩ = some (.int .i32 x.2.1) := blk_cell R1.out 1; have c2 : w1.cell? ⟨w.heap.size, 2, none⟩ = some (.string x.2.2) := blk_cell R1.out 2; have f0 := blk_frozen R1.out 0; have f1 := blk_frozen R1.out 1; have f2 := blk_frozen R1.out 2; have hsw1 := (B1.out).size; clear hb)
            all_goals (go_roundw; (case rel => exact ⟨(if cp - k = 4 then some ⟨b, A', none⟩ else some ⟨b, A' + 4, none⟩), ys.drop (k + 4), cp - k - 4, x, m, (by simp; first | done | omega), (by simp; omega), (by simp; omega), (by simp; omega), (by simp; omega), ⟨HY.out.drop _⟩, ⟨fun hh => ⟨_, by rw [if_neg (by simp at hh; omega)], (HAA.out _ HA1.out).on _⟩⟩, HE, ⟨R1.out⟩, ⟨B1.out⟩⟩); (case measure => simp [lenOf]; omega))
          · have HE : Aside0 (all (zs.length + 1) zs x0 = .bad) := ⟨HV.out.trans (by rw [fldT, if_neg hL, if_neg hL2, if_neg (by omega), if_neg (by omega), if_pos hK5, if_neg h8])⟩
            clear HV
            have t1 : (((4 : Int)) ≤ ((ys.length - k : Nat) : Int)) = False := eq_false h8
            have t2 : (((ys.length - k : Nat) : Int) < 4) = True := eq_true (by omega)
            go_wp2_with (go_at_call 22; (with_reducible refine (HW2.out _ HA.out).mono ?_); rintro e w1 ⟨rfl, hb⟩; have B1 := Aside0.mk (below_step HB.out hb); have R1 := Aside0.mk (blk_below HC.out hb); have HA1 := Aside0.mk (HA.out.below hb); have c0 : w1.cell? ⟨w.heap.size, 0, none⟩ = some (.int .i64 x.1) := blk_cell R1.out 0; have c1 : w1.cell? ⟨w.heap.size, 1, none⟩ = some (.int .i32 x.2.1) := blk_cell R1.out 1; have c2 : w1.cell? ⟨w.heap.size, 2, none⟩ = some (.string x.2.2) := blk_cell R1.out 2; have f0 := blk_frozen R1.out 0; have f1 := blk_frozen R1.out 1; have f2 := blk_frozen R1.out 2; have hsw1 := (B1.out).size; clear hb)
            all_goals exact bodyPost_ret (v := .tuple #[xOut x0, .bool false, .bool true]) (by simp [results, Tryd.results7, go_sem, c0, c1, c2, f0, f1, f2, hsw1, xOut, x0]) rfl ⟨by rw [HE.out]; rfl, below_set (below_set (below_set B1.out (Nat.le_refl _)) (Nat.le_refl _)) (Nat.le_refl _)⟩
        have hd1 : (ys.drop k).length ≤ 2147483647 := by simp; omega
        have hd2 : (ys.drop k).length ≤ cp - k := by simp; omega
        by_cases hK0 : v % 8 = 0
        · rcases hv2 : rv 0 0 (ys.drop k) with _ | ⟨n, j⟩
          ·
            have HE : Aside0 (all (zs.length + 1) zs x0 = .bad) := ⟨HV.out.trans (by rw [fldT, if_neg hL, if_neg hL2, if_pos hK0, fldN, hv2])⟩
            clear HV
            have HW3 := Aside0.mk (by simpa only [List.length_drop] using read_none b A' (cp - k) (ys.drop k) (HY.out.drop k) hd1 hd2 hv2)
            clear hv2 hd1 hd2
            have bk0 : (v % 8 == 0) = true := beq_iff_eq.2 (by omega)
            have bk1 : (v % 8 == 1) = false := beq_eq_false_iff_ne.2 (by omega)
            have bk2 : (v % 8 == 2) = false := beq_eq_false_iff_ne.2 (by omega)
            have bk3 : (v % 8 == 3) = false := beq_eq_false_iff_ne.2 (by omega)
            have bk4 : (v % 8 == 4) = false := beq_eq_false_iff_ne.2 (by omega)
            have bk5 : (v % 8 == 5) = false := beq_eq_false_iff_ne.2 (by omega)
            have bk6 : (5 < v % 8) = False := eq_false (by omega)
            have bf0 : (v / 8 == 0) = false := beq_eq_false_iff_ne.2 (by omega)
            have bf6 : (268435456 < v / 8) = False := eq_false (by omega)
            go_wp2_with (first | (go_at_call 22; (with_reducible refine (HW2.out _ HA.out).mono ?_); rintro e w1 ⟨rfl, hb⟩; have B1 := Aside0.mk (below_step HB.out hb); have R1 := Aside0.mk (blk_below HC.out hb); have HA1 := Aside0.mk (HA.out.below hb); have c0 : w1.cell? ⟨w.heap.size, 0, none⟩ = some (.int .i64 x.1) := blk_cell R1.out 0; have c1 : w1.cell? ⟨w.heap.size, 1, none⟩ = some (.int .i32 x.2.1) := blk_cell R1.out 1; have c2 : w1.cell? ⟨w.heap.size, 2, none⟩ = some (.string x.2.2) := blk_cell R1.out 2; have f0 := blk_frozen R1.out 0; have f1 := blk_frozen R1.out 1; have f2 := blk_frozen R1.out 2; have hsw1 := (B1.out).size; clear hb) | (go_at_call 22; (with_reducible refine (HW3.out _ (HAA.out _ HA1.out)).mono ?_); rintro e w2 ⟨rfl, hb⟩; have B2 := Aside0.mk (below_step B1.out hb); have R2 := Aside0.mk (blk_below R1.out hb); have HA2 := Aside0.mk (HA1.out.below hb); have d0 : w2.cell? ⟨w.heap.size, 0, none⟩ = some (.int .i64 x.1) := blk_cell R2.out 0; have d1 : w2.cell? ⟨w.heap.size, 1, none⟩ = some (.int .i32 x.2.1) := blk_cell R2.out 1; have d2 : w2.cell? ⟨w.heap.size, 2, none⟩ = some (.string x.2.2) := blk_cell R2.out 2; have q0 := blk_frozen R2.out 0; have q1 := blk_frozen R2.out 1; have q2 := blk_frozen R2.out 2; have hsw2 := (B2.out).size; clear hb))
            all_goals exact bodyPost_ret (v := .tuple #[xOut x0, .bool false, .bool true]) (by simp [results, Tryd.results7, go_sem, d0, d1, d2, q0, q1, q2, hsw2, xOut, x0]) rfl ⟨by rw [HE.out]; rfl, below_set (below_set (below_set B2.out (Nat.le_refl _)) (Nat.le_refl _)) (Nat.le_refl _)⟩
          obtain ⟨A2, hA2, hW3⟩ := read_some b A' (cp - k) (ys.drop k) (HY.out.drop k) hd1 hd2 n j hv2
          have HW3 := Aside0.mk (by simpa only [List.length_drop] using hW3)
          have HAA2 := Aside0.mk hA2
          obtain ⟨⟨n0, n1⟩, j0, j1⟩ := rv_range (ys.drop k) 0 0 n j hv2
          rw [List.length_drop] at j1
          have HN := Aside0.mk (show fldT ys x v k = _ by rw [fldT, if_neg hL, if_neg hL2, if_pos hK0, fldN_some hv2])
          clear hv2 hW3 hA2
          by_cases hF1 : v / 8 = 1
          ·
            have HE : Aside0 (all (zs.length + 1) zs x0 = all m (ys.drop (k + j)) (wrap64 n, x.2.1, x.2.2)) := ⟨HV.out.trans (by rw [HN.out, if_pos hF1])⟩
            clear HN HV
            have bk0 : (v % 8 == 0) = true := beq_iff_eq.2 (by omega)
            have bk1 : (v % 8 == 1) = false := beq_eq_false_iff_ne.2 (by omega)
            have bk2 : (v % 8 == 2) = false := beq_eq_false_iff_ne.2 (by omega)
            have bk3 : (v % 8 == 3) = false := beq_eq_false_iff_ne.2 (by omega)
            have bk4 : (v % 8 == 4) = false := beq_eq_false_iff_ne.2 (by omega)
            have bk5 : (v % 8 == 5) = false := beq_eq_false_iff_ne.2 (by omega)
            have bk6 : (5 < v % 8) = False := eq_false (by omega)
            have bf0 : (v / 8 == 0) = false := beq_eq_false_iff_ne.2 (by omega)
            have bf1 : (v / 8 == 1) = true := beq_iff_eq.2 (by omega)
            have bf2 : (v / 8 == 2) = false := beq_eq_false_iff_ne.2 (by omega)
            have bf3 : (v / 8 == 3) = false := beq_eq_false_iff_ne.2 (by omega)
            have bf5 : (v / 8 ≤ 3) = True := eq_true (by omega)
            have bf6 : (268435456 < v / 8) = False := eq_false (by omega)
            go_wp2_with (first | (go_at_call 22; (with_reducible refine (HW2.out _ HA.out).mono ?_); rintro e w1 ⟨rfl, hb⟩; have B1 := Aside0.mk (below_step HB.out hb); have R1 := Aside0.mk (blk_below HC.out hb); have HA1 := Aside0.mk (HA.out.below hb); have c0 : w1.cell? ⟨w.heap.size, 0, none⟩ = some (.int .i64 x.1) := blk_cell R1.out 0; have c1 : w1.cell? ⟨w.heap.size, 1, none⟩ = some (.int .i32 x.2.1) := blk_cell R1.out 1; have c2 : w1.cell? ⟨w.heap.size, 2, none⟩ = some (.string x.2.2) := blk_cell R1.out 2; have f0 := blk_frozen R1.out 0; have f1 := blk_frozen R1.out 1; have f2 := blk_frozen R1.out 2; have hsw1 := (B1.out).size; clear hb) | (go_at_call 22; (with_reducible refine (HW3.out _ (HAA.out _ HA1.out)).mono ?_); rintro e w2 ⟨rfl, hb⟩; have B2 := Aside0.mk (below_step B1.out hb); have R2 := Aside0.mk (blk_below R1.out hb); have HA2 := Aside0.mk (HA1.out.below hb); have d0 : w2.cell? ⟨w.heap.size, 0, none⟩ = some (.int .i64 x.1) := blk_cell R2.out 0; have d1 : w2.cell? ⟨w.heap.size, 1, none⟩ = some (.int .i32 x.2.1) := blk_cell R2.out 1; have d2 : w2.cell? ⟨w.heap.size, 2, none⟩ = some (.string x.2.2) := blk_cell R2.out 2; have q0 := blk_frozen R2.out 0; have q1 := blk_frozen R2.out 1; have q2 := blk_frozen R2.out 2; have hsw2 := (B2.out).size; clear hb))
            all_goals (go_roundw; (case rel => exact ⟨(some ⟨b, A2, none⟩), ys.drop (k + j), cp - k - j, (wrap64 n, x.2.1, x.2.2), m, (by simp; first | done | omega), (by simp; omega), (by simp; omega), (by simp; omega), (by simp; omega), ⟨HY.out.drop _⟩, ⟨fun hh => ⟨_, by rfl, by simpa only [List.drop_drop] using HAA2.out _ (HAA.out _ (HA2.out.set (by omega)))⟩⟩, HE, ⟨blk_put R2.out 0 _ rfl⟩, ⟨below_set B2.out (Nat.le_refl _)⟩⟩); (case measure => simp [lenOf]; omega))
          by_cases hF2 : v / 8 = 2
          ·
            have HE : Aside0 (all (zs.length + 1) zs x0 = all m (ys.drop (k + j)) (x.1, wrap32 n, x.2.2)) := ⟨HV.out.trans (by rw [HN.out, if_neg (by omega), if_pos hF2])⟩
            clear HN HV
            have bk0 : (v % 8 == 0) = true := beq_iff_eq.2 (by omega)
            have bk1 : (v % 8 == 1) = false := beq_eq_false_iff_ne.2 (by omega)
            have bk2 : (v % 8 == 2) = false := beq_eq_false_iff_ne.2 (by omega)
            have bk3 : (v % 8 == 3) = false := beq_eq_false_iff_ne.2 (by omega)
            have bk4 : (v % 8 == 4) = false := beq_eq_false_iff_ne.2 (by omega)
            have bk5 : (v % 8 == 5) = false := beq_eq_false_iff_ne.2 (by omega)
            have bk6 : (5 < v % 8) = False := eq_false (by omega)
            have bf0 : (v / 8 == 0) = false := beq_eq_false_iff_ne.2 (by omega)
            have bf1 : (v / 8 == 1) = false := beq_eq_false_iff_ne.2 (by omega)
            have bf2 : (v / 8 == 2) = true := beq_iff_eq.2 (by omega)
            have bf3 : (v / 8 == 3) = false := beq_eq_false_iff_ne.2 (by omega)
            have bf5 : (v / 8 ≤ 3) = True := eq_true (by omega)
            have bf6 : (268435456 < v / 8) = False := eq_false (by omega)
            go_wp2_with (first | (go_at_call 22; (with_reducible refine (HW2.out _ HA.out).mono ?_); rintro e w1 ⟨rfl, hb⟩; have B1 := Aside0.mk (below_step HB.out hb); have R1 := Aside0.mk (blk_below HC.out hb); have HA1 := Aside0.mk (HA.out.below hb); have c0 : w1.cell? ⟨w.heap.size, 0, none⟩ = some (.int .i64 x.1) := blk_cell R1.out 0; have c1 : w1.cell? ⟨w.heap.size, 1, none⟩ = some (.int .i32 x.2.1) := blk_cell R1.out 1; have c2 : w1.cell? ⟨w.heap.size, 2, none⟩ = some (.string x.2.2) := blk_cell R1.out 2; have f0 := blk_frozen R1.out 0; have f1 := blk_frozen R1.out 1; have f2 := blk_frozen R1.out 2; have hsw1 := (B1.out).size; clear hb) | (go_at_call 22; (with_reducible refine (HW3.out _ (HAA.out _ HA1.out)).mono ?_); rintro e w2 ⟨rfl, hb⟩; have B2 := Aside0.mk (below_step B1.out hb); have R2 := Aside0.mk (blk_below R1.out hb); have HA2 := Aside0.mk (HA1.out.below hb); have d0 : w2.cell? ⟨w.heap.size, 0, none⟩ = some (.int .i64 x.1) := blk_cell R2.out 0; have d1 : w2.cell? ⟨w.heap.size, 1, none⟩ = some (.int .i32 x.2.1) := blk_cell R2.out 1; have d2 : w2.cell? ⟨w.heap.size, 2, none⟩ = some (.string x.2.2) := blk_cell R2.out 2; have q0 := blk_frozen R2.out 0; have q1 := blk_frozen R2.out 1; have q2 := blk_frozen R2.out 2; have hsw2 := (B2.out).size; clear hb))
            all_goals (go_roundw; (case rel => exact ⟨(some ⟨b, A2, none⟩), ys.drop (k + j), cp - k - j, (x.1, wrap32 n, x.2.2), m, (by simp; first | done | omega), (by simp; omega), (by simp; omega), (by simp; omega), (by simp; omega), ⟨HY.out.drop _⟩, ⟨fun hh => ⟨_, by rfl, by simpa only [List.drop_drop] using HAA2.out _ (HAA.out _ (HA2.out.set (by omega)))⟩⟩, HE, ⟨blk_put R2.out 1 _ rfl⟩, ⟨below_set B2.out (Nat.le_refl _)⟩⟩); (case measure => simp [lenOf]; omega))
          · have g3 : 3 < v / 8 := by omega
            have HE : Aside0 (all (zs.length + 1) zs x0 = all m (ys.drop (k + j)) x) := ⟨HV.out.trans (by rw [HN.out, if_neg (by omega), if_neg (by omega)])⟩
            clear HN HV
            have bk0 : (v % 8 == 0) = true := beq_iff_eq.2 (by omega)
            have bk1 : (v % 8 == 1) = false := beq_eq_false_iff_ne.2 (by omega)
            have bk2 : (v % 8 == 2) = false := beq_eq_false_iff_ne.2 (by omega)
            have bk3 : (v % 8 == 3) = false := beq_eq_false_iff_ne.2 (by omega)
            have bk4 : (v % 8 == 4) = false := beq_eq_false_iff_ne.2 (by omega)
            have bk5 : (v % 8 == 5) = false := beq_eq_false_iff_ne.2 (by omega)
            have bk6 : (5 < v % 8) = False := eq_false (by omega)
            have bf0 : (v / 8 == 0) = false := beq_eq_false_iff_ne.2 (by omega)
            have bf1 : (v / 8 == 1) = false := beq_eq_false_iff_ne.2 (by omega)
            have bf2 : (v / 8 == 2) = false := beq_eq_false_iff_ne.2 (by omega)
            have bf3 : (v / 8 == 3) = false := beq_eq_false_iff_ne.2 (by omega)
            have bf5 : (v / 8 ≤ 3) = False := eq_false (by omega)
            have bf6 : (268435456 < v / 8) = False := eq_false (by omega)
            go_wp2_with (first | (go_at_call 22; (with_reducible refine (HW2.out _ HA.out).mono ?_); rintro e w1 ⟨rfl, hb⟩; have B1 := Aside0.mk (below_step HB.out hb); have R1 := Aside0.mk (blk_below HC.out hb); have HA1 := Aside0.mk (HA.out.below hb); have c0 : w1.cell? ⟨w.heap.size, 0, none⟩ = some (.int .i64 x.1) := blk_cell R1.out 0; have c1 : w1.cell? ⟨w.heap.size, 1, none⟩ = some (.int .i32 x.2.1) := blk_cell R1.out 1; have c2 : w1.cell? ⟨w.heap.size, 2, none⟩ = some (.string x.2.2) := blk_cell R1.out 2; have f0 := blk_frozen R1.out 0; have f1 := blk_frozen R1.out 1; have f2 := blk_frozen R1.out 2; have hsw1 := (B1.out).size; clear hb) | (go_at_call 22; (with_reducible refine (HW3.out _ (HAA.out _ HA1.out)).mono ?_); rintro e w2 ⟨rfl, hb⟩; have B2 := Aside0.mk (below_step B1.out hb); have R2 := Aside0.mk (blk_below R1.out hb); have HA2 := Aside0.mk (HA1.out.below hb); have d0 : w2.cell? ⟨w.heap.size, 0, none⟩ = some (.int .i64 x.1) := blk_cell R2.out 0; have d1 : w2.cell? ⟨w.heap.size, 1, none⟩ = some (.int .i32 x.2.1) := blk_cell R2.out 1; have d2 : w2.cell? ⟨w.heap.size, 2, none⟩ = some (.string x.2.2) := blk_cell R2.out 2; have q0 := blk_frozen R2.out 0; have q1 := blk_frozen R2.out 1; have q2 := blk_frozen R2.out 2; have hsw2 := (B2.out).size; clear hb))
            all_goals (go_roundw; (case rel => exact ⟨(some ⟨b, A2, none⟩), ys.drop (k + j), cp - k - j, x, m, (by simp; first | done | omega), (by simp; omega), (by simp; omega), (by simp; omega), (by simp; omega), ⟨HY.out.drop _⟩, ⟨fun hh => ⟨_, by rfl, by simpa only [List.drop_drop] using HAA2.out _ (HAA.out _ (HA2.out))⟩⟩, HE, ⟨R2.out⟩, ⟨B2.out⟩⟩); (case measure => simp [lenOf]; omega))
        have hK2 : v % 8 = 2 := by omega
        rcases hv2 : rv 0 0 (ys.drop k) with _ | ⟨n, j⟩
        ·
          have HE : Aside0 (all (zs.length + 1) zs x0 = .bad) := ⟨HV.out.trans (by rw [fldT, if_neg hL, if_neg hL2, if_neg hK0, if_neg hK1, if_neg hK5, fldS, hv2])⟩
          clear HV
          have HW3 := Aside0.mk (by simpa only [List.length_drop] using read_none b A' (cp - k) (ys.drop k) (HY.out.drop k) hd1 hd2 hv2)
          clear hv2 hd1 hd2
          have bk0 : (v % 8 == 0) = false := beq_eq_false_iff_ne.2 (by omega)
          have bk1 : (v % 8 == 1) = false := beq_eq_false_iff_ne.2 (by omega)
          have bk2 : (v % 8 == 2) = true := beq_iff_eq.2 (by omega)
          have bk3 : (v % 8 == 3) = false := beq_eq_false_iff_ne.2 (by omega)
          have bk4 : (v % 8 == 4) = false := beq_eq_false_iff_ne.2 (by omega)
          have bk5 : (v % 8 == 5) = false := beq_eq_false_iff_ne.2 (by omega)
          have bk6 : (5 < v % 8) = False := eq_false (by omega)
          have bf0 : (v / 8 == 0) = false := beq_eq_false_iff_ne.2 (by omega)
          have bf6 : (268435456 < v / 8) = False := eq_false (by omega)
          go_wp2_with (first | (go_at_call 22; (with_reducible refine (HW2.out _ HA.out).mono ?_); rintro e w1 ⟨rfl, hb⟩; have B1 := Aside0.mk (below_step HB.out hb); have R1 := Aside0.mk (blk_below HC.out hb); have HA1 := Aside0.mk (HA.out.below hb); have c0 : w1.cell? ⟨w.heap.size, 0, none⟩ = some (.int .i64 x.1) := blk_cell R1.out 0; have c1 : w1.cell? ⟨w.heap.size, 1, none⟩ = some (.int .i32 x.2.1) := blk_cell R1.out 1; have c2 : w1.cell? ⟨w.heap.size, 2, none⟩ = some (.string x.2.2) := blk_cell R1.out 2; have f0 := blk_frozen R1.out 0; have f1 := blk_frozen R1.out 1; have f2 := blk_frozen R1.out 2; have hsw1 := (B1.out).size; clear hb) | (go_at_call 22; (with_reducible refine (HW3.out _ (HAA.out _ HA1.out)).mono ?_); rintro e w2 ⟨rfl, hb⟩; have B2 := Aside0.mk (below_step B1.out hb); have R2 := Aside0.mk (blk_below R1.out hb); have HA2 := Aside0.mk (HA1.out.below hb); have d0 : w2.cell? ⟨w.heap.size, 0, none⟩ = some (.int .i64 x.1) := blk_cell R2.out 0; have d1 : w2.cell? ⟨w.heap.size, 1, none⟩ = some (.int .i32 x.2.1) := blk_cell R2.out 1; have d2 : w2.cell? ⟨w.heap.size, 2, none⟩ = some (.string x.2.2) := blk_cell R2.out 2; have q0 := blk_frozen R2.out 0; have q1 := blk_frozen R2.out 1; have q2 := blk_frozen R2.out 2; have hsw2 := (B2.out).size; clear hb))
          all_goals exact bodyPost_ret (v := .tuple #[xOut x0, .bool false, .bool true]) (by simp [results, Tryd.results7, go_sem, d0, d1, d2, q0, q1, q2, hsw2, xOut, x0]) rfl ⟨by rw [HE.out]; rfl, below_set (below_set (below_set B2.out (Nat.le_refl _)) (Nat.le_refl _)) (Nat.le_refl _)⟩
        obtain ⟨A2, hA2, hW3⟩ := read_some b A' (cp - k) (ys.drop k) (HY.out.drop k) hd1 hd2 n j hv2
        have HW3 := Aside0.mk (by simpa only [List.length_drop] using hW3)
        have HAA2 := Aside0.mk hA2
        obtain ⟨⟨n0, n1⟩, j0, j1⟩ := rv_range (ys.drop k) 0 0 n j hv2
        rw [List.length_drop] at j1
        have HN := Aside0.mk (show fldT ys x v k = _ by rw [fldT, if_neg hL, if_neg hL2, if_neg hK0, if_neg hK1, if_neg hK5, fldS_some hv2])
        clear hv2 hW3 hA2
        obtain ⟨n, rfl⟩ : ∃ q : Nat, n = q := ⟨n.toNat, by omega⟩
        by_cases hn : (n : Int) ≤ ((ys.length - k - j : Nat) : Int)
        · have hn' : n ≤ ys.length - k - j := by omega
          have t1 : (((n : Int)) ≤ ((ys.length - k - j : Nat) : Int)) = True := eq_true hn
          have t2 : (n ≤ ys.length - k - j) = True := eq_true hn'
          have t3 : (n ≤ cp - k - j) = True := eq_true (by omega)
          have t4 : ((n : Int) ≤ ((cp - k - j : Nat) : Int)) = True := eq_true (by omega)
          by_cases hF3 : v / 8 = 3
          ·
            have HE : Aside0 (all (zs.length + 1) zs x0 = all m (ys.drop (k + j + n)) (x.1, x.2.1, txtOf ((ys.drop (k + j)).take n))) := ⟨HV.out.trans (by rw [HN.out, if_pos hn, Int.toNat_natCast, if_pos hF3])⟩
            clear HN HV n1 hn
            have bk0 : (v % 8 == 0) = false := beq_eq_false_iff_ne.2 (by omega)
            have bk1 : (v % 8 == 1) = false := beq_eq_false_iff_ne.2 (by omega)
            have bk2 : (v % 8 == 2) = true := beq_iff_eq.2 (by omega)
            have bk3 : (v % 8 == 3) = false := beq_eq_false_iff_ne.2 (by omega)
            have bk4 : (v % 8 == 4) = false := beq_eq_false_iff_ne.2 (by omega)
            have bk5 : (v % 8 == 5) = false := beq_eq_false_iff_ne.2 (by omega)
            have bk6 : (5 < v % 8) = False := eq_false (by omega)
            have bf0 : (v / 8 == 0) = false := beq_eq_false_iff_ne.2 (by omega)
            have bf1 : (v / 8 == 1) = false := beq_eq_false_iff_ne.2 (by omega)
            have bf2 : (v / 8 == 2) = false := beq_eq_false_iff_ne.2 (by omega)
            have bf3 : (v / 8 == 3) = true := beq_iff_eq.2 (by omega)
            have bf5 : (v / 8 ≤ 3) = True := eq_true (by omega)
            have bf6 : (268435456 < v / 8) = False := eq_false (by omega)
            go_wp2_with (first | (go_at_call 22; (with_reducible refine (HW2.out _ HA.out).mono ?_); rintro e w1 ⟨rfl, hb⟩; have B1 := Aside0.mk (below_step HB.out hb); have R1 := Aside0.mk (blk_below HC.out hb); have HA1 := Aside0.mk (HA.out.below hb); have c0 : w1.cell? ⟨w.heap.size, 0, none⟩ = some (.int .i64 x.1) := blk_cell R1.out 0; have c1 : w1.cell? ⟨w.heap.size, 1, none⟩ = some (.int .i32 x.2.1) := blk_cell R1.out 1; have c2 : w1.cell? ⟨w.heap.size, 2, none⟩ = some (.string x.2.2) := blk_cell R1.out 2; have f0 := blk_frozen R1.out 0; have f1 := blk_frozen R1.out 1; have f2 := blk_frozen R1.out 2; have hsw1 := (B1.out).size; clear hb) | (go_at_call 22; (with_reducible refine (HW3.out _ (HAA.out _ HA1.out)).mono ?_); rintro e w2 ⟨rfl, hb⟩; have B2 := Aside0.mk (below_step B1.out hb); have R2 := Aside0.mk (blk_below R1.out hb); have HA2 := Aside0.mk (HA1.out.below hb); have d0 : w2.cell? ⟨w.heap.size, 0, none⟩ = some (.int .i64 x.1) := blk_cell R2.out 0; have d1 : w2.cell? ⟨w.heap.size, 1, none⟩ = some (.int .i32 x.2.1) := blk_cell R2.out 1; have d2 : w2.cell? ⟨w.heap.size, 2, none⟩ = some (.string x.2.2) := blk_cell R2.out 2; have q0 := blk_frozen R2.out 0; have q1 := blk_frozen R2.out 1; have q2 := blk_frozen R2.out 2; have hsw2 := (B2.out).size; have hcv : ∀ nq cap', Sem.run Tryd.prog (convert 22 9 (.slice (some ⟨b, A2, none⟩) n cap')) (w2.drewN nq) = .ok (.string (txtOf ((ys.drop (k + j)).take n))) (w2.drewN nq) := (fun nq cap' => conv_at (by simpa only [List.drop_drop] using HAA2.out _ (HAA.out _ (HA2.out.drewN nq))) n cap' (by simp; omega)); clear hb))
            repeat (go_quiet (fail); try go_wp2)
            all_goals (go_roundw; (case rel => exact ⟨(if cp - k - j = n then some ⟨b, A2, none⟩ else some ⟨b, A2 + n, none⟩), ys.drop (k + j + n), cp - k - j - n, (x.1, x.2.1, txtOf ((ys.drop (k + j)).take n)), m, (by simp; first | done | omega), (by simp; omega), (by simp; omega), (by simp; omega), (by simp; omega), ⟨HY.out.drop _⟩, ⟨fun hh => ⟨_, by rw [if_neg (by simp at hh; omega)], by simpa only [List.drop_drop, Nat.add_assoc] using (HAA2.out _ (HAA.out _ ((HA2.out.drewN _).set (by omega)))).on n⟩⟩, HE, ⟨blk_put (blk_drewN R2.out _) 2 _ rfl⟩, ⟨below_set (pw_below_drewN B2.out _) (Nat.le_refl _)⟩⟩); (case measure => simp [lenOf]; omega))
          · have g3 : 3 < v / 8 := by omega
            have HE : Aside0 (all (zs.length + 1) zs x0 = all m (ys.drop (k + j + n)) x) := ⟨HV.out.trans (by rw [HN.out, if_pos hn, Int.toNat_natCast, if_neg (by omega)])⟩
            clear HN HV n1 hn
            have bk0 : (v % 8 == 0) = false := beq_eq_false_iff_ne.2 (by omega)
            have bk1 : (v % 8 == 1) = false := beq_eq_false_iff_ne.2 (by omega)
            have bk2 : (v % 8 == 2) = true := beq_iff_eq.2 (by omega)
            have bk3 : (v % 8 == 3) = false := beq_eq_false_iff_ne.2 (by omega)
            have bk4 : (v % 8 == 4) = false := beq_eq_false_iff_ne.2 (by omega)
            have bk5 : (v % 8 == 5) = false := beq_eq_false_iff_ne.2 (by omega)
            have bk6 : (5 < v % 8) = False := eq_false (by omega)
            have bf0 : (v / 8 == 0) = false := beq_eq_false_iff_ne.2 (by omega)
            have bf1 : (v / 8 == 1) = false := beq_eq_false_iff_ne.2 (by omega)
            have bf2 : (v / 8 == 2) = false := beq_eq_false_iff_ne.2 (by omega)
            have bf3 : (v / 8 == 3) = false := beq_eq_false_iff_ne.2 (by omega)
            have bf5 : (v / 8 ≤ 3) = False := eq_false (by omega)
            have bf6 : (268435456 < v / 8) = False := eq_false (by omega)
            go_wp2_with (first | (go_at_call 22; (with_reducible refine (HW2.out _ HA.out).mono ?_); rintro e w1 ⟨rfl, hb⟩; have B1 := Aside0.mk (below_step HB.out hb); have R1 := Aside0.mk (blk_below HC.out hb); have HA1 := Aside0.mk (HA.out.below hb); have c0 : w1.cell? ⟨w.heap.size, 0, none⟩ = some (.int .i64 x.1) := blk_cell R1.out 0; have c1 : w1.cell? ⟨w.heap.size, 1, none⟩ = some (.int .i32 x.2.1) := blk_cell R1.out 1; have c2 : w1.cell? ⟨w.heap.size, 2, none⟩ = some (.string x.2.2) := blk_cell R1.out 2; have f0 := blk_frozen R1.out 0; have f1 := blk_frozen R1.out 1; have f2 := blk_frozen R1.out 2; have hsw1 := (B1.out).size; clear hb) | (go_at_call 22; (with_reducible refine (HW3.out _ (HAA.out _ HA1.out)).mono ?_); rintro e w2 ⟨rfl, hb⟩; have B2 := Aside0.mk (below_step B1.out hb); have R2 := Aside0.mk (blk_below R1.out hb); have HA2 := Aside0.mk (HA1.out.below hb); have d0 : w2.cell? ⟨w.heap.size, 0, none⟩ = some (.int .i64 x.1) := blk_cell R2.out 0; have d1 : w2.cell? ⟨w.heap.size, 1, none⟩ = some (.int .i32 x.2.1) := blk_cell R2.out 1; have d2 : w2.cell? ⟨w.heap.size, 2, none⟩ = some (.string x.2.2) := blk_cell R2.out 2; have q0 := blk_frozen R2.out 0; have q1 := blk_frozen R2.out 1; have q2 := blk_frozen R2.out 2; have hsw2 := (B2.out).size; clear hb))
            repeat (go_quiet (fail); try go_wp2)
            all_goals (go_roundw; (case rel => exact ⟨(if cp - k - j = n then some ⟨b, A2, none⟩ else some ⟨b, A2 + n, none⟩), ys.drop (k + j + n), cp - k - j - n, x, m, (by simp; first | done | omega), (by simp; omega), (by simp; omega), (by simp; omega), (by simp; omega), ⟨HY.out.drop _⟩, ⟨fun hh => ⟨_, by rw [if_neg (by simp at hh; omega)], by simpa only [List.drop_drop, Nat.add_assoc] using (HAA2.out _ (HAA.out _ (HA2.out.drewN _))).on n⟩⟩, HE, ⟨R2.out⟩, ⟨pw_below_drewN B2.out _⟩⟩); (case measure => simp [lenOf]; omega))
        ·
          have HE : Aside0 (all (zs.length + 1) zs x0 = .bad) := ⟨HV.out.trans (by rw [HN.out, if_neg hn])⟩
          clear HN HV
          have t1 : ((n : Int) ≤ ((ys.length - k - j : Nat) : Int)) = False := eq_false hn
          have t2 : (n ≤ ys.length - k - j) = False := eq_false (by omega)
          have HN2 := Aside0.mk n1
          clear n1 hn
          have bk0 : (v % 8 == 0) = false := beq_eq_false_iff_ne.2 (by omega)
          have bk1 : (v % 8 == 1) = false := beq_eq_false_iff_ne.2 (by omega)
          have bk2 : (v % 8 == 2) = true := beq_iff_eq.2 (by omega)
          have bk3 : (v % 8 == 3) = false := beq_eq_false_iff_ne.2 (by omega)
          have bk4 : (v % 8 == 4) = false := beq_eq_false_iff_ne.2 (by omega)
          have bk5 : (v % 8 == 5) = false := beq_eq_false_iff_ne.2 (by omega)
          have bk6 : (5 < v % 8) = False := eq_false (by omega)
          have bf0 : (v / 8 == 0) = false := beq_eq_false_iff_ne.2 (by omega)
          have bf6 : (268435456 < v / 8) = False := eq_false (by omega)
          go_wp2_with (first | (go_at_call 22; (with_reducible refine (HW2.out _ HA.out).mono ?_); rintro e w1 ⟨rfl, hb⟩; have B1 := Aside0.mk (below_step HB.out hb); have R1 := Aside0.mk (blk_below HC.out hb); have HA1 := Aside0.mk (HA.out.below hb); have c0 : w1.cell? ⟨w.heap.size, 0, none⟩ = some (.int .i64 x.1) := blk_cell R1.out 0; have c1 : w1.cell? ⟨w.heap.size, 1, none⟩ = some (.int .i32 x.2.1) := blk_cell R1.out 1; have c2 : w1.cell? ⟨w.heap.size, 2, none⟩ = some (.string x.2.2) := blk_cell R1.out 2; have f0 := blk_frozen R1.out 0; have f1 := blk_frozen R1.out 1; have f2 := blk_frozen R1.out 2; have hsw1 := (B1.out).size; clear hb) | (go_at_call 22; (with_reducible refine (HW3.out _ (HAA.out _ HA1.out)).mono ?_); rintro e w2 ⟨rfl, hb⟩; have B2 := Aside0.mk (below_step B1.out hb); have R2 := Aside0.mk (blk_below R1.out hb); have HA2 := Aside0.mk (HA1.out.below hb); have d0 : w2.cell? ⟨w.heap.size, 0, none⟩ = some (.int .i64 x.1) := blk_cell R2.out 0; have d1 : w2.cell? ⟨w.heap.size, 1, none⟩ = some (.int .i32 x.2.1) := blk_cell R2.out 1; have d2 : w2.cell? ⟨w.heap.size, 2, none⟩ = some (.string x.2.2) := blk_cell R2.out 2; have q0 := blk_frozen R2.out 0; have q1 := blk_frozen R2.out 1; have q2 := blk_frozen R2.out 2; have hsw2 := (B2.out).size; clear hb))
          all_goals exact bodyPost_ret (v := .tuple #[xOut x0, .bool false, .bool true]) (by simp [results, Tryd.results7, go_sem, d0, d1, d2, q0, q1, q2, hsw2, xOut, x0]) rfl ⟨by rw [HE.out]; rfl, below_set (below_set (below_set B2.out (Nat.le_refl _)) (Nat.le_refl _)) (Nat.le_refl _)⟩
    · have q : ((0 : Int) < (ys.length : Int)) = False := eq_false (by omega)
      have c0 : wr.cell? ⟨w.heap.size, 0, none⟩ = some (.int .i64 x.1) := blk_cell HC.out 0
      have c1 : wr.cell? ⟨w.heap.size, 1, none⟩ = some (.int .i32 x.2.1) := blk_cell HC.out 1
      have c2 : wr.cell? ⟨w.heap.size, 2, none⟩ = some (.string x.2.2) := blk_cell HC.out 2
      have f0 := blk_frozen HC.out 0; have f1 := blk_frozen HC.out 1; have f2 := blk_frozen HC.out 2
      have hs1 := (HB.out).size
      have hy0 : ys = [] := List.eq_nil_of_length_eq_zero (by omega)
      have HE := Aside0.mk (HV.out.trans (show all m ys x = .ok x by obtain ⟨q, rfl⟩ : ∃ q, m = q + 1 := ⟨m - 1, by omega⟩; rw [hy0]; rfl))
      go_wp2
      exact bodyPost_ret (v := .tuple #[xOut x, .bool true, .bool true]) (by simp [results, Tryd.results7, go_sem, c0, c1, c2, f0, f1, f2, hs1, xOut]) rfl ⟨by rw [HE.out]; rfl, below_set (below_set (below_set HB.out (Nat.le_refl _)) (Nat.le_refl _)) (Nat.le_refl _)⟩
end Go.Proofs.YtihlmkgffifknaaDoor.Read
