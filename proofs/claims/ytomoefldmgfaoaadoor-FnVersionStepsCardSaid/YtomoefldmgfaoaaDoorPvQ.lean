/- Versions: the walk of parse. -/
import Derived.Test.YtomoefldmgfaoaaDoorPvP
import Derived.BigCall
import Derived.Laws.MakeOwn
import Derived.RegionTactic
import Derived.Lib.BufferMore
set_option linter.unusedVariables false
set_option linter.unusedSimpArgs false
namespace Go.Proofs.YtomoefldmgfaoaaDoor.Pv
open Go Go.RowKit Go.Proofs.YtomoefldmgfaoaaDoor Go.Proofs.YtomoefldmgfaoaaDoorW.PrintWords Go.Proofs.YtomoefldmgfaoaaDoor.PvH Go.Proofs.YtomoefldmgfaoaaDoor.Txt Go.Proofs.YtomoefldmgfaoaaDoor.Small

/-- A row of texts. -/
def Row (w : World) (b : Nat) (fs : List ByteArray) : Prop := ∀ (i : Nat) (h : i < fs.length), w.cell? ⟨b, i, none⟩ = some (.string fs[i])
theorem Row.below {w w' : World} {b : Nat} {fs : List ByteArray} (h : Row w b fs) (hb : Below w.heap.size w w') : Row w' b fs := fun i hi => pw_cell_below hb (h i hi)
theorem row_of {w : World} {base : Nat} {ok : Nat → Prop} {v : Value} {xs : List ByteArray} (h : Kd.R Kd.string 9 w base ok v xs) (hx : 0 < xs.length) : ∃ b cap n, v = .slice (some ⟨b, 0, none⟩) n cap ∧ n = xs.length ∧ Row w b xs ∧ base ≤ b ∧ b < w.heap.size := by
  obtain ⟨b, cap, rfl, h1, h2, -⟩ := Kd.R_form h hx
  refine ⟨b, cap, _, rfl, rfl, fun i hi => ?_, h1, h2⟩
  have := (Kd.R_cell (⟨#[]⟩ : ByteArray) h (i : Int) (by omega) (by omega)).1
  rw [Int.toNat_natCast] at this
  rw [this, rdOf, Int.toNat_natCast, List.getD_eq_getElem?_getD, List.getElem?_eq_getElem hi]; rfl
def tailP (sem : Bool) (F : List Bs) (r : Bs) : Option (List Nat × Bs × Bs) :=
  if (if sem then F.length ≠ 3 else F.length < 2) then none
  else match nums sem true F with
    | none => none
    | some ns => if sem && r != [] then
        match extra r with
        | none => none
        | some (p, b) => if (spl p).all okPre then some (ns, p, b) else none
      else some (ns, [], [])
theorem pparse_tail {sem : Bool} {l : Bs} (h1 : (fieldsOf l).1 ≠ []) (h2 : 10 ∉ (fieldsOf l).2) : pparse sem l = tailP sem (fieldsOf l).1 (fieldsOf l).2 := by
  unfold pparse tailP
  simp only
  rw [if_neg h1, if_neg h2]; rfl
/-- The cells of a version. -/
def IsVer (w : World) (g c : Nat) (ns : List Nat) (sem : Bool) (p b : ByteArray) : Prop := w.heap[g]? = some (.cells #[.slice (some ⟨c, 0, none⟩) ns.length ns.length, .bool sem, .string p, .string b] 90 (0, 0)) ∧ w.heap[c]? = some (.cells (ns.map fun n : Nat => Value.int .u64 (n : Int)).toArray 22 (0, 0))
theorem IsVer.below {w w' : World} {g c : Nat} {ns : List Nat} {sem : Bool} {p b : ByteArray} (h : IsVer w g c ns sem p b) (hb : Below w.heap.size w w') : IsVer w' g c ns sem p b := ⟨blk_below h.1 hb, blk_below h.2 hb⟩
/-- What parse hands back. -/
def Told (w w' : World) (e : Ending) (sem : Bool) : Option (List Nat × Bs × Bs) → Prop
  | none => ∃ T x, e = .returned (.tuple #[.pointer none, .iface T x])
  | some q => ∃ g c, e = .returned (.tuple #[.pointer (some ⟨g, 0, none⟩), .nilIface]) ∧ IsVer w' g c q.1 sem (mk q.2.1) (mk q.2.2) ∧ w.heap.size ≤ g ∧ w.heap.size ≤ c
/-- The cells of the numbers, as far as they have been read. -/
def part0 (ns : List Nat) (m : Nat) : Array Value := ((ns.map fun n : Nat => Value.int .u64 (n : Int)) ++ List.replicate m (Value.int .u64 0)).toArray
theorem pieces_ev {s : ByteArray} (hs : Fit s) : ∃ k, version_zzVersion.f k s = some (pieces s) := (version_ev hs).rounds
theorem less_of {n m : Nat} (h : m < n) : n - ((m : Int) + 1).toNat < n - ((m : Int)).toNat := by omega
theorem part0_at {ns : List Nat} {m k : Nat} (h : ns.length = k) (hm : 0 < m) : (part0 ns m)[k]? = some (.int .u64 0) := by
  subst h
  obtain ⟨m, rfl⟩ : ∃ j, m = j + 1 := ⟨m - 1, by omega⟩
  unfold part0
  rw [List.getElem?_toArray, List.getElem?_append_right (by simp)]
  simp [List.replicate_succ]
theorem part0_set {ns : List Nat} {m k : Nat} (u : Nat) (h : ns.length = k) (hm : 0 < m) : (part0 ns m).setIfInBounds k (.int .u64 (u : Int)) = part0 (ns ++ [u]) (m - 1) := by
  subst h
  obtain ⟨m, rfl⟩ : ∃ j, m = j + 1 := ⟨m - 1, by omega⟩
  unfold part0
  rw [List.setIfInBounds_toArray, List.set_append_right _ _ (by simp)]
  simp [List.replicate_succ]
theorem extra_len {r p b : Bs} (h : extra r = some (p, b)) : p.length ≤ r.length := by
  obtain ⟨bl, -, e, -, -⟩ := extra_asm h
  have e' := congrArg List.length e
  unfold asm at e'
  rw [List.length_append] at e'
  by_cases h0 : p = []
  · rw [h0]; simp
  · rw [if_neg h0, List.length_cons] at e'; omega
theorem spl_len : ∀ (l : Bs), (spl l).length ≤ l.length + 1
  | [] => Nat.le_refl _
  | c :: t => by
    have := spl_len t
    rw [spl]
    split
    · simp only [List.length_cons]; omega
    · split
      · simp
      · rename_i h
        rw [h] at this
        simp only [List.length_cons] at this ⊢; omega
/-- What stands behind the count of the fields. -/
def rest (sem : Bool) (F : List Bs) (r : Bs) : Option (List Nat × Bs × Bs) := match nums sem true F with
  | none => none
  | some ns => if sem && r != [] then
      match extra r with
      | none => none
      | some (p, b) => if (spl p).all okPre then some (ns, p, b) else none
    else some (ns, [], [])
theorem new2 (w : World) (o o' : Obj) : ((w.alloc o).alloc o').heap[w.heap.size + 1]? = some o' := by
  have h := blk_new (w.alloc o) o'
  rw [show (w.alloc o).heap.size = w.heap.size + 1 by simp] at h
  exact h
theorem make_uint (n : Nat) (h : n ≤ 1099511627776) : ∀ W, Sem.run Tryd.prog (Instr.makeSlice 24 (.int .i64 (n : Int)) (.int .i64 (n : Int))) W = .ok (.slice (some ⟨W.heap.size, 0, none⟩) n n) (W.alloc (.cells (part0 [] n) 22)) := fun W => by
  obtain ⟨i0, hi, hz0, hz1, hz2⟩ := info_parts (show (Tryd.prog.info? 22).map (fun i => (i.zero, i.size, i.bytes)) = some (some (.int .u64 0), 1, 8) by kernel_rfl)
  have := run_make (P := Tryd.prog) W 24 22 i0 _ Tryd.underlying24 hi hz0 .i64 .i64 (n : Int) (n : Int) (by omega) (by omega) (by rw [hz2]; omega) (by omega)
  simp only [Int.toNat_natCast] at this
  rw [this]
  have e : madeCells (Value.int .u64 0).cells (n * i0.size) = part0 [] n := by
    rw [hz1]
    apply Array.ext
    · simp [madeCells, part0]
    · intro i h1 h2
      simp [madeCells, part0, Value.cells, Nat.mod_one]
  rw [e]
set_option maxHeartbeats 16000000 in
set_option maxRecDepth 100000 in
theorem parse_nil (s : ByteArray) (sem : Bool) (kv : Nat) (hv : version_zzVersion.f kv s = some (pieces s)) (c1 : (fieldsOf (Lb s)).1 = [] ∨ 10 ∈ (fieldsOf (Lb s)).2) (w : World) :
    Calls Tryd.prog 86 #[.string s, .bool sem] w fun e w' => Told w w' e sem (pparse sem (Lb s)) ∧ Below w.heap.size w w' := by
  have mixed : Tryd.prog.follows .mixedOrders = true := by kernel_rfl
  have hu1 := Tryd.underlying90
  have HV := Aside0.mk (fun w => version_zzVersion.calls kv s (pieces s) w hv)
  have en0 : ∀ W n c, (binOp .eql 49 (.slice none n c) (.slice none 0 0)).run Tryd.prog W = .ok (.bool true) W := fun W n c => Lib.run_eql_slice_nil_nil W n c Tryd.underlying49
  clear hv
  have hp : pieces s = [] := by
    unfold pieces
    rcases c1 with c1 | c1
    · rw [if_pos c1]
    · by_cases c : (fieldsOf (Lb s)).1 = []
      · rw [if_pos c]
      · rw [if_neg c, if_pos c1]
  have hn : pparse sem (Lb s) = none := by
    unfold pparse
    simp only
    rcases c1 with c1 | c1
    · rw [if_pos c1]
    · by_cases c : (fieldsOf (Lb s)).1 = []
      · rw [if_pos c]
      · rw [if_neg c, if_pos c1]
  rw [hn]
  have HP := Aside0.mk hp
  clear hp hn c1
  go_enter Tryd.func86, Tryd.ntmps86
  go_wp2_with (first
    | (go_at_call 94; (with_reducible refine (HV.out _).mono ?_); rintro e w1 ⟨v0, rfl, hr, hb, hn⟩; obtain rfl := hn HP.out; have B1 := Aside0.mk hb; clear hr hb hn)
    | (go_at_call 72; (with_reducible refine (errors_New.calls _ _).mono ?_); rintro e w2 ⟨⟨x, rfl⟩, hb⟩; have B2 := Aside0.mk (below_step B1.out hb); clear hb))
  go_ret2
  exact ⟨⟨_, _, rfl⟩, B2.out⟩
set_option maxHeartbeats 64000000 in
set_option maxRecDepth 1000000 in
theorem parse_sem (s : ByteArray) (F : List Bs) (r : Bs) (kv ks : Nat) (hv : version_zzVersion.f kv s = some (pieces s)) (hp : pieces s = [s, mk (joinP F), mk r]) (hks : version_zzSplit.f ks (mk (joinP F)) dot = some (F.map mk)) (hf : ∀ f ∈ F, f ≠ [] ∧ f.length ≤ 1099511627776) (hr : r.length ≤ 1099511627776) (hL : F.length ≤ 1099511627776) (hL0 : 0 < F.length) (w : World) (hg : Good w) :
    Calls Tryd.prog 86 #[.string s, .bool true] w fun e w' => Told w w' e true (tailP true F r) ∧ Below w.heap.size w w' := by
  have mixed : Tryd.prog.follows .mixedOrders = true := by kernel_rfl
  have hu1 := Tryd.underlying90
  have HV := Aside0.mk (fun w => version_zzVersion.calls kv s (pieces s) w hv)
  have HG := Aside0.mk hg
  have HP := Aside0.mk hp
  have HK := Aside0.mk (fun w => version_zzSplit.calls ks (mk (joinP F)) dot (F.map mk) w hks)
  have HF := Aside0.mk hf
  have HR := Aside0.mk hr
  have HL := Aside0.mk hL
  have HL0 := Aside0.mk hL0
  have en0 : ∀ W n c, (binOp .eql 49 (.slice none n c) (.slice none 0 0)).run Tryd.prog W = .ok (.bool true) W := fun W n c => Lib.run_eql_slice_nil_nil W n c Tryd.underlying49
  have en1 : ∀ W a n c, (binOp .eql 49 (.slice (some a) n c) (.slice none 0 0)).run Tryd.prog W = .ok (.bool false) W := fun W a n c => Lib.run_eql_slice_some_nil W a n c Tryd.underlying49
  have hmk := make_uint F.length hL
  clear hv hg hp hks hf hr
  by_cases c4 : F.length = 3
  rotate_left
  · have hn : tailP true F r = none := by unfold tailP; rw [if_pos (by simpa using c4)]
    rw [hn]
    have q1 : ((F.length : Int) == 3) = false := beq_eq_false_iff_ne.2 (by omega)
    have q3 : ((F.length : Int) != 3) = true := bne_iff_ne.2 (by omega)
    clear hn c4 hmk hL hL0
    go_enter Tryd.func86, Tryd.ntmps86
    go_wp2_with (first
          | (go_at_call 94; (with_reducible refine (HV.out _).mono ?_); rintro e w1 ⟨v0, rfl, hr, hb, -⟩; rw [HP.out] at hr; obtain ⟨b0, cap0, n0, rfl, hn0, hrow, -, hlt0⟩ := row_of hr (by simp); obtain rfl : n0 = 3 := hn0; have d1 : w1.cell? ⟨b0, 1, none⟩ = some (.string (mk (joinP F))) := hrow 1 (by simp); have d2 : w1.cell? ⟨b0, 2, none⟩ = some (.string (mk r)) := hrow 2 (by simp); have B1 := Aside0.mk hb; clear hr hb hrow))
    go_quiet (fail)
    go_wp2_with (first
          | (go_at_call 95; (with_reducible refine (HK.out _).mono ?_); rintro e w2 ⟨v0, rfl, hr, hb⟩; obtain ⟨b1, cap1, n1, rfl, hn1, hrow, -, hlt1⟩ := row_of hr (by rw [List.length_map]; exact HL0.out); rw [List.length_map] at hn1; subst hn1; have B2 := Aside0.mk (below_step (pw_below_drewN B1.out _) hb); have R2 := Aside0.mk hrow; clear hr hb hrow d1 d2)
          | (go_at_call 72; (with_reducible refine (errors_New.calls _ _).mono ?_); rintro e w3 ⟨⟨x, rfl⟩, hb⟩; have B3 := Aside0.mk (below_step B2.out hb); clear hb))
    go_ret2
    exact ⟨⟨_, _, rfl⟩, B3.out⟩
  · have q1 : ((F.length : Int) == 3) = true := beq_iff_eq.2 (by omega)
    have q3 : ((F.length : Int) != 3) = false := bne_eq_false_iff_eq.2 (by omega)
    have hT : tailP true F r = rest true F r := by unfold tailP rest; rw [if_neg (by simpa using c4)]
    rw [hT]
    clear hT c4 hL hL0
    go_enter Tryd.func86, Tryd.ntmps86
    go_wp2_with (first
          | (go_at_call 94; (with_reducible refine (HV.out _).mono ?_); rintro e w1 ⟨v0, rfl, hr, hb, -⟩; rw [HP.out] at hr; obtain ⟨b0, cap0, n0, rfl, hn0, hrow, -, hlt0⟩ := row_of hr (by simp); obtain rfl : n0 = 3 := hn0; have d1 : w1.cell? ⟨b0, 1, none⟩ = some (.string (mk (joinP F))) := hrow 1 (by simp); have d2 : w1.cell? ⟨b0, 2, none⟩ = some (.string (mk r)) := hrow 2 (by simp); have B1 := Aside0.mk hb; clear hr hb hrow))
    go_quiet (fail)
    go_wp2_with (first
          | (go_at_call 95; (with_reducible refine (HK.out _).mono ?_); rintro e w2 ⟨v0, rfl, hr, hb⟩; obtain ⟨b1, cap1, n1, rfl, hn1, hrow, -, hlt1⟩ := row_of hr (by rw [List.length_map]; exact HL0.out); rw [List.length_map] at hn1; subst hn1; have B2 := Aside0.mk (below_step (pw_below_drewN B1.out _) hb); have R2 := Aside0.mk hrow; clear hr hb hrow d1 d2))
    have C0 : Aside0 (((w2.alloc (Obj.cells (part0 [] F.length) 22)).alloc (Obj.cells #[Value.slice (some { block := w2.heap.size, off := 0 }) F.length F.length, Value.bool true, Value.string { data := #[] }, Value.string { data := #[] }] 90)).heap[w2.heap.size]? = some (.cells (part0 [] F.length) 22 (0, 0))) := ⟨blk_alloc (blk_new w2 _) _⟩
    have G0 : Aside0 (((w2.alloc (Obj.cells (part0 [] F.length) 22)).alloc (Obj.cells #[Value.slice (some { block := w2.heap.size, off := 0 }) F.length F.length, Value.bool true, Value.string { data := #[] }, Value.string { data := #[] }] 90)).heap[w2.heap.size + 1]? = some (.cells #[Value.slice (some { block := w2.heap.size, off := 0 }) F.length F.length, Value.bool true, Value.string { data := #[] }, Value.string { data := #[] }] 90 (0, 0))) := ⟨new2 w2 _ _⟩
    have B3 := Aside0.mk (below_alloc (below_alloc B2.out (Obj.cells (part0 [] F.length) 22)) (Obj.cells #[Value.slice (some { block := w2.heap.size, off := 0 }) F.length F.length, Value.bool true, Value.string { data := #[] }, Value.string { data := #[] }] 90))
    have R3 := Aside0.mk (R2.out.below (below_alloc (below_alloc (Below.refl w2.heap.size w2) (Obj.cells (part0 [] F.length) 22)) (Obj.cells #[Value.slice (some { block := w2.heap.size, off := 0 }) F.length F.length, Value.bool true, Value.string { data := #[] }, Value.string { data := #[] }] 90)))
    have hcb := B2.out.size
    clear B2 R2 q1 q3
    generalize (w2.alloc (Obj.cells (part0 [] F.length) 22)).alloc (Obj.cells #[Value.slice (some { block := w2.heap.size, off := 0 }) F.length F.length, Value.bool true, Value.string { data := #[] }, Value.string { data := #[] }] 90) = W0 at C0 G0 B3 R3 ⊢
    generalize w2.heap.size = c at C0 G0 hlt1 hcb ⊢
    go_loopw [57] (fun i wr => ∃ (k : Nat) (ns0 : List Nat), k ≤ F.length ∧ i = .int .i64 (k : Int) ∧ Aside0 (ns0.length = k) ∧ Aside0 (nums true true F = (nums true (k == 0) (F.drop k)).map (fun t => ns0 ++ t)) ∧ Aside0 (wr.heap[c]? = some (.cells (part0 ns0 (F.length - k)) 22 (0, 0))) ∧ Aside0 (wr.heap[c + 1]? = some (.cells #[Value.slice (some { block := c, off := 0 }) F.length F.length, Value.bool true, Value.string { data := #[] }, Value.string { data := #[] }] 90 (0, 0))) ∧ Aside0 (Below w.heap.size w wr) ∧ Aside0 (Row wr b1 (F.map mk))) (fun i _ => F.length - (intOf i).toNat)
    case atStart => exact ⟨0, [], Nat.zero_le _, rfl, ⟨rfl⟩, ⟨by simp⟩, C0, G0, B3, R3⟩
    case round =>
      clear C0 G0 B3 R3
      obtain ⟨k, ns0, hk, rfl, HN0, HN, HC, HGG, HB, HRow⟩ := hrel
      by_cases hlt : k < F.length
      · have p : (0 ≤ (k : Int)) = True := eq_true (by omega)
        have q : ((k : Int) < (F.length : Int)) = True := eq_true (by omega)
        have x0 : wr.cell? ⟨b1, k, none⟩ = some (.string (mk F[k])) := by
          have h := HRow.out k (by rw [List.length_map]; exact hlt)
          rw [List.getElem_map] at h; exact h
        have HN1 : Aside0 (nums true true F = (nums true (k == 0) (F[k] :: F.drop (k + 1))).map (fun t => ns0 ++ t)) := ⟨by rw [← List.drop_eq_getElem_cons hlt]; exact HN.out⟩
        obtain ⟨hf0, hf1⟩ := HF.out F[k] (List.getElem_mem hlt)
        have HX := Aside0.mk hf0
        have HX1 : Aside0 ((mk F[k]).size ≤ 281474976710656) := ⟨by rw [size_mk]; omega⟩
        have hF1 : (F.drop (k + 1)).length = F.length - (k + 1) := List.length_drop
        clear HN hf0 hf1
        generalize F[k] = f at x0 HN1 HX HX1
        by_cases k0 : k = 0
        · subst k0
          have k1 : ((0 : Nat) == 0) = true := rfl
          by_cases h48 : f = [48]
          · subst h48
            have e1 : ((Lb (mk [48])).head? == some 48) = true := rfl
            obtain ⟨u, hv⟩ : ∃ u, vn [48] = some u := ⟨0, rfl⟩
            have HU := Aside0.mk (fun w => pu_ok (mk [48]) HX1.out u hv w)
            have hnx : Aside0 (nums true true F = (nums true false (F.drop (0 + 1))).map (fun t => (ns0 ++ [u]) ++ t)) := ⟨by
              rw [HN1.out, k1, nums, if_neg (by simp [bad]), hv]
              simp only
              cases nums true false (F.drop (0 + 1)) <;> simp⟩
            clear hv
            have w9 : wrap64 ((0 : Int) + 1) = (0 : Int) + 1 := w64 _ (by omega) (by have := HL.out; omega)
            have cl : Aside0 ((part0 ns0 (F.length - 0))[0]? = some (.int .u64 0)) := ⟨part0_at HN0.out (by omega)⟩
            go_wp2_with (first
                | (go_at_call 96; (with_reducible refine (prefix_calls _ _).mono ?_); rintro e wp1 ⟨rfl, ⟨nd, rfl⟩⟩)
                | (go_at_call 97; (with_reducible refine (HU.out _).mono ?_); rintro e wu ⟨rfl, hb⟩; have Bx : Aside0 (Below wr.heap.size wr wu) := ⟨by first | exact hb | exact below_step (pw_below_drewN (Below.refl _ _) _) hb⟩; have Bu := Aside0.mk (below_step HB.out Bx.out); have Cu := Aside0.mk (blk_below HC.out Bx.out); have Gu := Aside0.mk (blk_below HGG.out Bx.out); have Ru := Aside0.mk (HRow.out.below Bx.out); have g0 : wu.cell? ⟨c + 1, 0, none⟩ = some (.slice (some ⟨c, 0, none⟩) F.length F.length) := blk_cell Gu.out 0; have cz : wu.cell? ⟨c, 0, none⟩ = some (.int .u64 0) := (blk_cell Cu.out 0).trans cl.out; have fz : wu.frozen? ⟨c, 0, none⟩ = false := blk_frozen Cu.out 0; clear hb x0))
            go_roundw
            case measure => first | (rw [w9]; exact less_of hlt) | (show F.length - (1 : Int).toNat < F.length - ((0 : Nat) : Int).toNat; omega)
            case rel =>
              refine ⟨0 + 1, ns0 ++ [u], hlt, by first | rfl | (rw [w9]; simp), ⟨by rw [List.length_append, HN0.out]; rfl⟩, ⟨by rw [(show (0 + 1 == 0) = false by simp)]; exact hnx.out⟩, ⟨?_⟩, ⟨?_⟩, ⟨?_⟩, ⟨?_⟩⟩
              · rw [show F.length - (0 + 1) = F.length - 0 - 1 by omega]; exact blk_put Cu.out 0 _ (part0_set u HN0.out (by omega))
              · exact blk_far Gu.out (show c + 1 ≠ c by omega) _
              · exact below_set Bu.out hcb
              · exact fun i hi => (cell_far (show b1 ≠ c by omega) _).trans (Ru.out i hi)
          · cases hh : (f.head? == some 48) with
            | true =>
              have hb : bad f = true := by unfold bad; rw [hh]; simpa using h48
              have e1 : ((Lb (mk f)).head? == some 48) = true := hh
              have e2 : (f == [48]) = false := beq_eq_false_iff_ne.2 h48
              have e3 : (f = [48]) = False := eq_false h48
              have hn : rest true F r = none := by unfold rest; rw [HN1.out, k1, nums, if_pos (by rw [hb]; simp)]; rfl
              go_wp2_with (first
                    | (go_at_call 96; (with_reducible refine (prefix_calls _ _).mono ?_); rintro e wp1 ⟨rfl, ⟨nd, rfl⟩⟩)
                    | (go_at_call 72; (with_reducible refine (errors_New.calls _ _).mono ?_); rintro e wn ⟨⟨x, rfl⟩, hb⟩; have Bn := Aside0.mk (below_step (pw_below_drewN HB.out _) hb); clear hb))
              go_ret2
              refine ⟨?_, Bn.out⟩
              rw [hn]
              exact ⟨_, _, rfl⟩
            | false =>
              have e1 : ((Lb (mk f)).head? == some 48) = false := hh
              cases hv : vn f with
              | none =>
                have hn : rest true F r = none := by
                  unfold rest
                  rw [HN1.out, k1, nums, hv]
                  by_cases hq : ((true || true) && bad f) = true
                  · rw [if_pos hq]; rfl
                  · rw [if_neg hq]; rfl
                have HU := Aside0.mk (fun w hg => pu_no (mk f) HX1.out hv w hg)
                clear hv
                go_wp2_with (first
                    | (go_at_call 96; (with_reducible refine (prefix_calls _ _).mono ?_); rintro e wp1 ⟨rfl, ⟨nd, rfl⟩⟩)
                    | (go_at_call 97; (with_reducible refine (HU.out _ (HG.out.below (pw_below_drewN HB.out _))).mono ?_); rintro e wu ⟨⟨xu, Tu, yu, rfl⟩, hb⟩; have Bu := Aside0.mk (below_step (pw_below_drewN HB.out _) hb); clear hb)
                    | (go_at_call 72; (with_reducible refine (errors_New.calls _ _).mono ?_); rintro e wn ⟨⟨x, rfl⟩, hb⟩; have Bn := Aside0.mk (below_step Bu.out hb); clear hb))
                go_ret2
                refine ⟨?_, Bn.out⟩
                rw [hn]
                exact ⟨_, _, rfl⟩
              | some u =>
                have HU := Aside0.mk (fun w => pu_ok (mk f) HX1.out u hv w)
                have hnx : Aside0 (nums true true F = (nums true false (F.drop (0 + 1))).map (fun t => (ns0 ++ [u]) ++ t)) := ⟨by
                  rw [HN1.out, k1, nums, if_neg (by rw [(show bad f = false by unfold bad; rw [hh]; rfl)]; simp), hv]
                  simp only
                  cases nums true false (F.drop (0 + 1)) <;> simp⟩
                clear hv
                have w9 : wrap64 ((0 : Int) + 1) = (0 : Int) + 1 := w64 _ (by omega) (by have := HL.out; omega)
                have cl : Aside0 ((part0 ns0 (F.length - 0))[0]? = some (.int .u64 0)) := ⟨part0_at HN0.out (by omega)⟩
                go_wp2_with (first
                    | (go_at_call 96; (with_reducible refine (prefix_calls _ _).mono ?_); rintro e wp1 ⟨rfl, ⟨nd, rfl⟩⟩)
                    | (go_at_call 97; (with_reducible refine (HU.out _).mono ?_); rintro e wu ⟨rfl, hb⟩; have Bx : Aside0 (Below wr.heap.size wr wu) := ⟨by first | exact hb | exact below_step (pw_below_drewN (Below.refl _ _) _) hb⟩; have Bu := Aside0.mk (below_step HB.out Bx.out); have Cu := Aside0.mk (blk_below HC.out Bx.out); have Gu := Aside0.mk (blk_below HGG.out Bx.out); have Ru := Aside0.mk (HRow.out.below Bx.out); have g0 : wu.cell? ⟨c + 1, 0, none⟩ = some (.slice (some ⟨c, 0, none⟩) F.length F.length) := blk_cell Gu.out 0; have cz : wu.cell? ⟨c, 0, none⟩ = some (.int .u64 0) := (blk_cell Cu.out 0).trans cl.out; have fz : wu.frozen? ⟨c, 0, none⟩ = false := blk_frozen Cu.out 0; clear hb x0))
                go_roundw
                case measure => first | (rw [w9]; exact less_of hlt) | (show F.length - (1 : Int).toNat < F.length - ((0 : Nat) : Int).toNat; omega)
                case rel =>
                  refine ⟨0 + 1, ns0 ++ [u], hlt, by first | rfl | (rw [w9]; simp), ⟨by rw [List.length_append, HN0.out]; rfl⟩, ⟨by rw [(show (0 + 1 == 0) = false by simp)]; exact hnx.out⟩, ⟨?_⟩, ⟨?_⟩, ⟨?_⟩, ⟨?_⟩⟩
                  · rw [show F.length - (0 + 1) = F.length - 0 - 1 by omega]; exact blk_put Cu.out 0 _ (part0_set u HN0.out (by omega))
                  · exact blk_far Gu.out (show c + 1 ≠ c by omega) _
                  · exact below_set Bu.out hcb
                  · exact fun i hi => (cell_far (show b1 ≠ c by omega) _).trans (Ru.out i hi)
        · skip
          have z1 : ((k : Int) == 0) = false := beq_eq_false_iff_ne.2 (by omega)
          have z2 : ((k : Int) = 0) = False := eq_false (by omega)
          have k1 : (k == 0) = false := beq_eq_false_iff_ne.2 k0
          by_cases h48 : f = [48]
          · subst h48
            have e1 : ((Lb (mk [48])).head? == some 48) = true := rfl
            obtain ⟨u, hv⟩ : ∃ u, vn [48] = some u := ⟨0, rfl⟩
            have HU := Aside0.mk (fun w => pu_ok (mk [48]) HX1.out u hv w)
            have hnx : Aside0 (nums true true F = (nums true false (F.drop (k + 1))).map (fun t => (ns0 ++ [u]) ++ t)) := ⟨by
              rw [HN1.out, k1, nums, if_neg (by simp [bad]), hv]
              simp only
              cases nums true false (F.drop (k + 1)) <;> simp⟩
            clear hv
            have w9 : wrap64 ((k : Int) + 1) = (k : Int) + 1 := w64 _ (by omega) (by have := HL.out; omega)
            have cl : Aside0 ((part0 ns0 (F.length - k))[k]? = some (.int .u64 0)) := ⟨part0_at HN0.out (by omega)⟩
            go_wp2_with (first
                | (go_at_call 96; (with_reducible refine (prefix_calls _ _).mono ?_); rintro e wp1 ⟨rfl, ⟨nd, rfl⟩⟩)
                | (go_at_call 97; (with_reducible refine (HU.out _).mono ?_); rintro e wu ⟨rfl, hb⟩; have Bx : Aside0 (Below wr.heap.size wr wu) := ⟨by first | exact hb | exact below_step (pw_below_drewN (Below.refl _ _) _) hb⟩; have Bu := Aside0.mk (below_step HB.out Bx.out); have Cu := Aside0.mk (blk_below HC.out Bx.out); have Gu := Aside0.mk (blk_below HGG.out Bx.out); have Ru := Aside0.mk (HRow.out.below Bx.out); have g0 : wu.cell? ⟨c + 1, 0, none⟩ = some (.slice (some ⟨c, 0, none⟩) F.length F.length) := blk_cell Gu.out 0; have cz : wu.cell? ⟨c, k, none⟩ = some (.int .u64 0) := (blk_cell Cu.out k).trans cl.out; have fz : wu.frozen? ⟨c, k, none⟩ = false := blk_frozen Cu.out k; clear hb x0))
            go_roundw
            case measure => first | (rw [w9]; exact less_of hlt) | (show F.length - (1 : Int).toNat < F.length - ((0 : Nat) : Int).toNat; omega)
            case rel =>
              refine ⟨k + 1, ns0 ++ [u], hlt, by first | rfl | (rw [w9]; simp), ⟨by rw [List.length_append, HN0.out]; rfl⟩, ⟨by rw [(show (k + 1 == 0) = false by simp)]; exact hnx.out⟩, ⟨?_⟩, ⟨?_⟩, ⟨?_⟩, ⟨?_⟩⟩
              · rw [show F.length - (k + 1) = F.length - k - 1 by omega]; exact blk_put Cu.out k _ (part0_set u HN0.out (by omega))
              · exact blk_far Gu.out (show c + 1 ≠ c by omega) _
              · exact below_set Bu.out hcb
              · exact fun i hi => (cell_far (show b1 ≠ c by omega) _).trans (Ru.out i hi)
          · cases hh : (f.head? == some 48) with
            | true =>
              have hb : bad f = true := by unfold bad; rw [hh]; simpa using h48
              have e1 : ((Lb (mk f)).head? == some 48) = true := hh
              have e2 : (f == [48]) = false := beq_eq_false_iff_ne.2 h48
              have e3 : (f = [48]) = False := eq_false h48
              have hn : rest true F r = none := by unfold rest; rw [HN1.out, k1, nums, if_pos (by rw [hb]; simp)]; rfl
              go_wp2_with (first
                    | (go_at_call 96; (with_reducible refine (prefix_calls _ _).mono ?_); rintro e wp1 ⟨rfl, ⟨nd, rfl⟩⟩)
                    | (go_at_call 72; (with_reducible refine (errors_New.calls _ _).mono ?_); rintro e wn ⟨⟨x, rfl⟩, hb⟩; have Bn := Aside0.mk (below_step (pw_below_drewN HB.out _) hb); clear hb))
              go_ret2
              refine ⟨?_, Bn.out⟩
              rw [hn]
              exact ⟨_, _, rfl⟩
            | false =>
              have e1 : ((Lb (mk f)).head? == some 48) = false := hh
              cases hv : vn f with
              | none =>
                have hn : rest true F r = none := by
                  unfold rest
                  rw [HN1.out, k1, nums, hv]
                  by_cases hq : ((false || true) && bad f) = true
                  · rw [if_pos hq]; rfl
                  · rw [if_neg hq]; rfl
                have HU := Aside0.mk (fun w hg => pu_no (mk f) HX1.out hv w hg)
                clear hv
                go_wp2_with (first
                    | (go_at_call 96; (with_reducible refine (prefix_calls _ _).mono ?_); rintro e wp1 ⟨rfl, ⟨nd, rfl⟩⟩)
                    | (go_at_call 97; (with_reducible refine (HU.out _ (HG.out.below (pw_below_drewN HB.out _))).mono ?_); rintro e wu ⟨⟨xu, Tu, yu, rfl⟩, hb⟩; have Bu := Aside0.mk (below_step (pw_below_drewN HB.out _) hb); clear hb)
                    | (go_at_call 72; (with_reducible refine (errors_New.calls _ _).mono ?_); rintro e wn ⟨⟨x, rfl⟩, hb⟩; have Bn := Aside0.mk (below_step Bu.out hb); clear hb))
                go_ret2
                refine ⟨?_, Bn.out⟩
                rw [hn]
                exact ⟨_, _, rfl⟩
              | some u =>
                have HU := Aside0.mk (fun w => pu_ok (mk f) HX1.out u hv w)
                have hnx : Aside0 (nums true true F = (nums true false (F.drop (k + 1))).map (fun t => (ns0 ++ [u]) ++ t)) := ⟨by
                  rw [HN1.out, k1, nums, if_neg (by rw [(show bad f = false by unfold bad; rw [hh]; rfl)]; simp), hv]
                  simp only
                  cases nums true false (F.drop (k + 1)) <;> simp⟩
                clear hv
                have w9 : wrap64 ((k : Int) + 1) = (k : Int) + 1 := w64 _ (by omega) (by have := HL.out; omega)
                have cl : Aside0 ((part0 ns0 (F.length - k))[k]? = some (.int .u64 0)) := ⟨part0_at HN0.out (by omega)⟩
                go_wp2_with (first
                    | (go_at_call 96; (with_reducible refine (prefix_calls _ _).mono ?_); rintro e wp1 ⟨rfl, ⟨nd, rfl⟩⟩)
                    | (go_at_call 97; (with_reducible refine (HU.out _).mono ?_); rintro e wu ⟨rfl, hb⟩; have Bx : Aside0 (Below wr.heap.size wr wu) := ⟨by first | exact hb | exact below_step (pw_below_drewN (Below.refl _ _) _) hb⟩; have Bu := Aside0.mk (below_step HB.out Bx.out); have Cu := Aside0.mk (blk_below HC.out Bx.out); have Gu := Aside0.mk (blk_below HGG.out Bx.out); have Ru := Aside0.mk (HRow.out.below Bx.out); have g0 : wu.cell? ⟨c + 1, 0, none⟩ = some (.slice (some ⟨c, 0, none⟩) F.length F.length) := blk_cell Gu.out 0; have cz : wu.cell? ⟨c, k, none⟩ = some (.int .u64 0) := (blk_cell Cu.out k).trans cl.out; have fz : wu.frozen? ⟨c, k, none⟩ = false := blk_frozen Cu.out k; clear hb x0))
                go_roundw
                case measure => first | (rw [w9]; exact less_of hlt) | (show F.length - (1 : Int).toNat < F.length - ((0 : Nat) : Int).toNat; omega)
                case rel =>
                  refine ⟨k + 1, ns0 ++ [u], hlt, by first | rfl | (rw [w9]; simp), ⟨by rw [List.length_append, HN0.out]; rfl⟩, ⟨by rw [(show (k + 1 == 0) = false by simp)]; exact hnx.out⟩, ⟨?_⟩, ⟨?_⟩, ⟨?_⟩, ⟨?_⟩⟩
                  · rw [show F.length - (k + 1) = F.length - k - 1 by omega]; exact blk_put Cu.out k _ (part0_set u HN0.out (by omega))
                  · exact blk_far Gu.out (show c + 1 ≠ c by omega) _
                  · exact below_set Bu.out hcb
                  · exact fun i hi => (cell_far (show b1 ≠ c by omega) _).trans (Ru.out i hi)
      · have q : ((k : Int) < (F.length : Int)) = False := eq_false (by omega)
        have hkF : k = F.length := by omega
        subst hkF
        have hns : nums true true F = some ns0 := by
          rw [HN.out, List.drop_length, nums]; simp
        have C1 : Aside0 (wr.heap[c]? = some (.cells (ns0.map fun n : Nat => Value.int .u64 (n : Int)).toArray 22 (0, 0))) := ⟨by
          have h := HC.out
          rw [Nat.sub_self] at h
          rw [h]; unfold part0; simp⟩
        have hlt0 : w.heap.size ≤ c + 1 := by omega
        by_cases hr0 : r = []
        · have hR : rest true F r = some (ns0, [], []) := by unfold rest; rw [hns, hr0]; rfl
          have r1 : (r == []) = true := by rw [hr0]; rfl
          have r2 : (r = []) = True := eq_true hr0
          clear hns
          go_wp2
          go_ret2
          refine ⟨?_, HB.out⟩
          rw [hR]
          exact ⟨c + 1, c, rfl, ⟨by rw [HN0.out]; exact HGG.out, C1.out⟩, hlt0, hcb⟩
        · have r1 : (r == []) = false := beq_eq_false_iff_ne.2 hr0
          have r2 : (r = []) = False := eq_false hr0
          have hfit : Fit (mk r) := by unfold Fit; rw [size_mk]; have := HR.out; omega
          obtain ⟨ke, hke⟩ := (extra_ev hfit).rounds
          have HE := Aside0.mk (fun w => version_zzExtra.calls ke (mk r) (extraL (mk r)) w hke)
          clear hke
          cases hx : extra r with
          | none =>
            have hR : rest true F r = none := by unfold rest; rw [hns]; simp only; rw [if_pos (by simp [r1, bne]), hx]
            have hL : Aside0 (extraL (mk r) = []) := ⟨by unfold extraL; rw [Lb_mk, hx]⟩
            clear hns hx
            go_wp2_with (first
              | (go_at_call 98; (with_reducible refine (HE.out _).mono ?_); rintro e we ⟨v0, rfl, hr, hb, hn⟩; obtain rfl := hn hL.out; have Be := Aside0.mk (below_step HB.out hb); clear hr hb hn)
              | (go_at_call 72; (with_reducible refine (errors_New.calls _ _).mono ?_); rintro e wn ⟨⟨x, rfl⟩, hb⟩; have Bn := Aside0.mk (below_step Be.out hb); clear hb))
            go_ret2
            refine ⟨?_, Bn.out⟩
            rw [hR]
            exact ⟨_, _, rfl⟩
          | some pb => as_aux_lemma =>
            obtain ⟨pp, bb⟩ := pb
            have hL : Aside0 (extraL (mk r) = [mk r, mk pp, mk bb]) := ⟨by unfold extraL; rw [Lb_mk, hx]⟩
            have hR : Aside0 (rest true F r = if (spl pp).all okPre then some (ns0, pp, bb) else none) := ⟨by unfold rest; rw [hns]; simp only; rw [if_pos (by simp [r1, bne]), hx]⟩
            have HPL : Aside0 (pp.length ≤ r.length) := ⟨extra_len hx⟩
            clear hns hx
            go_wp2_with (first
              | (go_at_call 98; (with_reducible refine (HE.out _).mono ?_); rintro e we ⟨v0, rfl, hr, hb, -⟩; rw [hL.out] at hr; obtain ⟨b4, cap4, n4, rfl, hn4, hrow, hb4, hlt4⟩ := row_of hr (by simp); obtain rfl : n4 = 3 := hn4; have d1 : we.cell? ⟨b4, 1, none⟩ = some (.string (mk pp)) := hrow 1 (by simp); have d2 : we.cell? ⟨b4, 2, none⟩ = some (.string (mk bb)) := hrow 2 (by simp); have Be := Aside0.mk (below_step HB.out hb); have Ce := Aside0.mk (blk_below C1.out hb); have Ge := Aside0.mk (blk_below HGG.out hb); have hb4' : c + 1 < b4 := Nat.lt_of_lt_of_le (blk_lt HGG.out) hb4; have g2 : we.cell? ⟨c + 1, 2, none⟩ = some (.string ⟨#[]⟩) := blk_cell Ge.out 2; have g3 : we.cell? ⟨c + 1, 3, none⟩ = some (.string ⟨#[]⟩) := blk_cell Ge.out 3; have k2 : we.frozen? ⟨c + 1, 2, none⟩ = false := blk_frozen Ge.out 2; have k3 : we.frozen? ⟨c + 1, 3, none⟩ = false := blk_frozen Ge.out 3; clear hr hb hrow))
            go_region
            have G5 : Aside0 ((((we.setCell { block := c + 1, off := 2 } (Value.string (mk pp))).setCell { block := c + 1, off := 3 } (Value.string (mk bb))).drew).heap[c + 1]? = some (.cells #[Value.slice (some { block := c, off := 0 }) F.length F.length, Value.bool true, Value.string (mk pp), Value.string (mk bb)] 90 (0, 0))) := ⟨blk_drew (blk_put (blk_put Ge.out 2 _ rfl) 3 _ rfl)⟩
            have C5 : Aside0 ((((we.setCell { block := c + 1, off := 2 } (Value.string (mk pp))).setCell { block := c + 1, off := 3 } (Value.string (mk bb))).drew).heap[c]? = some (.cells (ns0.map fun n : Nat => Value.int .u64 (n : Int)).toArray 22 (0, 0))) := ⟨blk_drew (blk_far (blk_far Ce.out (show c ≠ c + 1 by omega) _) (show c ≠ c + 1 by omega) _)⟩
            have B5 : Aside0 (Below w.heap.size w (((we.setCell { block := c + 1, off := 2 } (Value.string (mk pp))).setCell { block := c + 1, off := 3 } (Value.string (mk bb))).drew)) := ⟨below_drew (below_set (below_set Be.out hlt0) hlt0)⟩
            generalize ((we.setCell { block := c + 1, off := 2 } (Value.string (mk pp))).setCell { block := c + 1, off := 3 } (Value.string (mk bb))).drew = W5 at G5 C5 B5 ⊢
            clear d1 d2 g2 g3 k2 k3 Be Ce Ge HB HC HGG C1 HRow hL hb4 hb4' hlt4 HN HE r1 r2
            have g2 : W5.cell? ⟨c + 1, 2, none⟩ = some (.string (mk pp)) := blk_cell G5.out 2
            have hpl : (mk pp).size ≤ 1099511627776 := by rw [size_mk]; have := HPL.out; have := HR.out; omega
            obtain ⟨kp, hkp⟩ := (zsplit_ev hpl).rounds
            have HSP := Aside0.mk (fun w => version_zzSplit.calls kp (mk pp) dot ((spl pp).map mk) w hkp)
            have hspn : Aside0 (0 < (spl pp).length) := ⟨List.length_pos_iff.2 (spl_ne pp)⟩
            have hspl : Aside0 (∀ x ∈ spl pp, x.length ≤ 1099511627776) := ⟨fun x hx => by
              obtain ⟨y, z, e⟩ := spl_sub (spl pp) x hx
              have h8 := congrArg List.length e
              rw [join_spl] at h8
              simp only [List.length_append] at h8
              have := HPL.out
              have := HR.out
              omega⟩
            have hspc : Aside0 ((spl pp).length ≤ 1099511627777) := ⟨by have := spl_len pp; have := HPL.out; have := HR.out; omega⟩
            clear hkp hpl
            go_wp2_with (first
              | (go_at_call 95; (with_reducible refine (HSP.out _).mono ?_); rintro e w6 ⟨v0, rfl, hr, hb⟩; obtain ⟨b6, cap6, n6, rfl, hn6, hrow, -, hlt6⟩ := row_of hr (by rw [List.length_map]; exact hspn.out); rw [List.length_map] at hn6; subst hn6; have B6 := Aside0.mk (below_step B5.out hb); have R6 := Aside0.mk hrow; have C6 := Aside0.mk (blk_below C5.out hb); have G6 := Aside0.mk (blk_below G5.out hb); clear hr hb hrow g2))
            clear B5 C5 G5 HSP
            go_loopw [120] (fun i wr => ∃ (k : Nat), k ≤ (spl pp).length ∧ i = .int .i64 (k : Int) ∧ Aside0 (∀ j (hj : j < (spl pp).length), j < k → okPre (spl pp)[j] = true) ∧ Aside0 (wr.heap[c]? = some (.cells (ns0.map fun n : Nat => Value.int .u64 (n : Int)).toArray 22 (0, 0))) ∧ Aside0 (wr.heap[c + 1]? = some (.cells #[Value.slice (some { block := c, off := 0 }) F.length F.length, Value.bool true, Value.string (mk pp), Value.string (mk bb)] 90 (0, 0))) ∧ Aside0 (Below w.heap.size w wr) ∧ Aside0 (Row wr b6 ((spl pp).map mk))) (fun i _ => (spl pp).length - (intOf i).toNat)
            case atStart => exact ⟨0, Nat.zero_le _, rfl, ⟨fun j _ h => absurd h (by omega)⟩, C6, G6, B6, R6⟩
            case round =>
              clear C6 G6 B6 R6
              obtain ⟨m, hm, rfl, HO, HC, HGG, HB, HRow⟩ := hrel
              by_cases hlt : m < (spl pp).length
              · have p : (0 ≤ (m : Int)) = True := eq_true (by omega)
                have q : ((m : Int) < ((spl pp).length : Int)) = True := eq_true (by omega)
                have x0 : wr.cell? ⟨b6, m, none⟩ = some (.string (mk (spl pp)[m])) := by
                  have h := HRow.out m (by rw [List.length_map]; exact hlt)
                  rw [List.getElem_map] at h; exact h
                have hx1 := hspl.out _ (List.getElem_mem hlt)
                have HX1 : Aside0 ((mk (spl pp)[m]).size ≤ 281474976710656) := ⟨by rw [size_mk]; omega⟩
                have HO1 : Aside0 (okPre (spl pp)[m] = true → ∀ j (hj : j < (spl pp).length), j < m + 1 → okPre (spl pp)[j] = true) := ⟨fun h9 j hj hjm => by
                  by_cases e : j = m
                  · subst e; exact h9
                  · exact HO.out j hj (by omega)⟩
                have HO2 : Aside0 (okPre (spl pp)[m] = false → (spl pp).all okPre = false) := ⟨fun h9 => by
                  rw [← Bool.not_eq_true, List.all_eq_true]
                  intro h8
                  have := h8 _ (List.getElem_mem hlt)
                  rw [h9] at this; cases this⟩
                have w9 : wrap64 ((m : Int) + 1) = (m : Int) + 1 := w64 _ (by omega) (by have := hspc.out; omega)
                clear HO hx1
                generalize (spl pp)[m] = f at x0 HX1 HO1 HO2
                cases hv : vn f with
                | none =>
                  have hok : Aside0 (okPre f = true) := ⟨by unfold okPre; rw [hv]; rfl⟩
                  have HU := Aside0.mk (fun w hg => pu_no (mk f) HX1.out hv w hg)
                  clear hv
                  go_wp2_with (first
                    | (go_at_call 97; (with_reducible refine (HU.out _ (HG.out.below HB.out)).mono ?_); rintro e wu ⟨⟨xu, Tu, yu, rfl⟩, hb⟩; have Bu := Aside0.mk (below_step HB.out hb); have Cu := Aside0.mk (blk_below HC.out hb); have Gu := Aside0.mk (blk_below HGG.out hb); have Ru := Aside0.mk (HRow.out.below hb); clear hb x0))
                  go_roundw
                  case measure => rw [w9]; exact less_of hlt
                  case rel => exact ⟨m + 1, hlt, by rw [w9]; simp, ⟨HO1.out hok.out⟩, Cu, Gu, Bu, Ru⟩
                | some u =>
                  have HU := Aside0.mk (fun w => pu_ok (mk f) HX1.out u hv w)
                  have hvs : (vn f).isSome = true := by rw [hv]; rfl
                  clear hv
                  cases hh : (f.head? == some 48) with
                  | false =>
                    have e1 : ((Lb (mk f)).head? == some 48) = false := hh
                    have hok : Aside0 (okPre f = true) := ⟨by unfold okPre bad; rw [hh]; simp⟩
                    go_wp2_with (first
                      | (go_at_call 97; (with_reducible refine (HU.out _).mono ?_); rintro e wu ⟨rfl, hb⟩; have Bu := Aside0.mk (below_step HB.out hb); have Cu := Aside0.mk (blk_below HC.out hb); have Gu := Aside0.mk (blk_below HGG.out hb); have Ru := Aside0.mk (HRow.out.below hb); clear hb x0)
                      | (go_at_call 96; (with_reducible refine (prefix_calls _ _).mono ?_); rintro e wp1 ⟨rfl, ⟨nd, rfl⟩⟩))
                    go_roundw
                    case measure => rw [w9]; exact less_of hlt
                    case rel => exact ⟨m + 1, hlt, by rw [w9]; simp, ⟨HO1.out hok.out⟩, ⟨blk_drewN Cu.out _⟩, ⟨blk_drewN Gu.out _⟩, ⟨pw_below_drewN Bu.out _⟩, ⟨Ru.out.below (pw_below_drewN (Below.refl _ _) _)⟩⟩
                  | true =>
                    have e1 : ((Lb (mk f)).head? == some 48) = true := hh
                    by_cases h48 : f = [48]
                    · subst h48
                      have hok : Aside0 (okPre [48] = true) := ⟨by unfold okPre bad; simp⟩
                      go_wp2_with (first
                        | (go_at_call 97; (with_reducible refine (HU.out _).mono ?_); rintro e wu ⟨rfl, hb⟩; have Bu := Aside0.mk (below_step HB.out hb); have Cu := Aside0.mk (blk_below HC.out hb); have Gu := Aside0.mk (blk_below HGG.out hb); have Ru := Aside0.mk (HRow.out.below hb); clear hb x0)
                        | (go_at_call 96; (with_reducible refine (prefix_calls _ _).mono ?_); rintro e wp1 ⟨rfl, ⟨nd, rfl⟩⟩))
                      go_roundw
                      case measure => rw [w9]; exact less_of hlt
                      case rel => exact ⟨m + 1, hlt, by rw [w9]; simp, ⟨HO1.out hok.out⟩, ⟨blk_drewN Cu.out _⟩, ⟨blk_drewN Gu.out _⟩, ⟨pw_below_drewN Bu.out _⟩, ⟨Ru.out.below (pw_below_drewN (Below.refl _ _) _)⟩⟩
                    · have e2 : (f == [48]) = false := beq_eq_false_iff_ne.2 h48
                      have e3 : (f = [48]) = False := eq_false h48
                      have hok : Aside0 (okPre f = false) := ⟨by unfold okPre bad; rw [hvs, hh]; simpa using h48⟩
                      go_wp2_with (first
                        | (go_at_call 97; (with_reducible refine (HU.out _).mono ?_); rintro e wu ⟨rfl, hb⟩; have Bu := Aside0.mk (below_step HB.out hb); clear hb x0)
                        | (go_at_call 96; (with_reducible refine (prefix_calls _ _).mono ?_); rintro e wp1 ⟨rfl, ⟨nd, rfl⟩⟩)
                        | (go_at_call 72; (with_reducible refine (errors_New.calls _ _).mono ?_); rintro e wn ⟨⟨x, rfl⟩, hb⟩; have Bn := Aside0.mk (below_step (pw_below_drewN Bu.out _) hb); clear hb))
                      go_ret2
                      refine ⟨?_, Bn.out⟩
                      rw [hR.out, if_neg (by rw [HO2.out hok.out]; simp)]
                      exact ⟨_, _, rfl⟩
              · have q : ((m : Int) < ((spl pp).length : Int)) = False := eq_false (by omega)
                go_wp2
                go_ret2
                refine ⟨?_, HB.out⟩
                rw [hR.out, if_pos (List.all_eq_true.2 fun x hx => by
                  obtain ⟨j, hj, e⟩ := List.getElem_of_mem hx
                  rw [← e]
                  exact HO.out j hj (by omega))]
                exact ⟨c + 1, c, rfl, ⟨by rw [HN0.out]; exact HGG.out, HC.out⟩, hlt0, hcb⟩
set_option maxHeartbeats 64000000 in
set_option maxRecDepth 1000000 in
theorem parse_gen (s : ByteArray) (F : List Bs) (r : Bs) (kv ks : Nat) (hv : version_zzVersion.f kv s = some (pieces s)) (hp : pieces s = [s, mk (joinP F), mk r]) (hks : version_zzSplit.f ks (mk (joinP F)) dot = some (F.map mk)) (hf : ∀ f ∈ F, f ≠ [] ∧ f.length ≤ 1099511627776) (hr : r.length ≤ 1099511627776) (hL : F.length ≤ 1099511627776) (hL0 : 0 < F.length) (w : World) (hg : Good w) :
    Calls Tryd.prog 86 #[.string s, .bool false] w fun e w' => Told w w' e false (tailP false F r) ∧ Below w.heap.size w w' := by
  have mixed : Tryd.prog.follows .mixedOrders = true := by kernel_rfl
  have hu1 := Tryd.underlying90
  have HV := Aside0.mk (fun w => version_zzVersion.calls kv s (pieces s) w hv)
  have HG := Aside0.mk hg
  have HP := Aside0.mk hp
  have HK := Aside0.mk (fun w => version_zzSplit.calls ks (mk (joinP F)) dot (F.map mk) w hks)
  have HF := Aside0.mk hf
  have HR := Aside0.mk hr
  have HL := Aside0.mk hL
  have HL0 := Aside0.mk hL0
  have en0 : ∀ W n c, (binOp .eql 49 (.slice none n c) (.slice none 0 0)).run Tryd.prog W = .ok (.bool true) W := fun W n c => Lib.run_eql_slice_nil_nil W n c Tryd.underlying49
  have en1 : ∀ W a n c, (binOp .eql 49 (.slice (some a) n c) (.slice none 0 0)).run Tryd.prog W = .ok (.bool false) W := fun W a n c => Lib.run_eql_slice_some_nil W a n c Tryd.underlying49
  have hmk := make_uint F.length hL
  clear hv hg hp hks hf hr
  by_cases c4 : 2 ≤ F.length
  rotate_left
  · have hn : tailP false F r = none := by unfold tailP; rw [if_pos (by simp; omega)]
    rw [hn]
    have q1 : ((F.length : Int) < 2) = True := eq_true (by omega)
    have q3 : decide ((F.length : Int) < 2) = true := decide_eq_true (by omega)
    clear hn c4 hmk hL hL0
    go_enter Tryd.func86, Tryd.ntmps86
    go_wp2_with (first
          | (go_at_call 94; (with_reducible refine (HV.out _).mono ?_); rintro e w1 ⟨v0, rfl, hr, hb, -⟩; rw [HP.out] at hr; obtain ⟨b0, cap0, n0, rfl, hn0, hrow, -, hlt0⟩ := row_of hr (by simp); obtain rfl : n0 = 3 := hn0; have d1 : w1.cell? ⟨b0, 1, none⟩ = some (.string (mk (joinP F))) := hrow 1 (by simp); have d2 : w1.cell? ⟨b0, 2, none⟩ = some (.string (mk r)) := hrow 2 (by simp); have B1 := Aside0.mk hb; clear hr hb hrow))
    go_quiet (fail)
    go_wp2_with (first
          | (go_at_call 95; (with_reducible refine (HK.out _).mono ?_); rintro e w2 ⟨v0, rfl, hr, hb⟩; obtain ⟨b1, cap1, n1, rfl, hn1, hrow, -, hlt1⟩ := row_of hr (by rw [List.length_map]; exact HL0.out); rw [List.length_map] at hn1; subst hn1; have B2 := Aside0.mk (below_step (pw_below_drewN B1.out _) hb); have R2 := Aside0.mk hrow; clear hr hb hrow d1 d2)
          | (go_at_call 72; (with_reducible refine (errors_New.calls _ _).mono ?_); rintro e w3 ⟨⟨x, rfl⟩, hb⟩; have B3 := Aside0.mk (below_step B2.out hb); clear hb))
    go_ret2
    exact ⟨⟨_, _, rfl⟩, B3.out⟩
  · have q1 : ((F.length : Int) < 2) = False := eq_false (by omega)
    have q3 : decide ((F.length : Int) < 2) = false := decide_eq_false (by omega)
    have hT : tailP false F r = rest false F r := by unfold tailP rest; rw [if_neg (by simp; omega)]
    rw [hT]
    clear hT c4 hL hL0
    go_enter Tryd.func86, Tryd.ntmps86
    go_wp2_with (first
          | (go_at_call 94; (with_reducible refine (HV.out _).mono ?_); rintro e w1 ⟨v0, rfl, hr, hb, -⟩; rw [HP.out] at hr; obtain ⟨b0, cap0, n0, rfl, hn0, hrow, -, hlt0⟩ := row_of hr (by simp); obtain rfl : n0 = 3 := hn0; have d1 : w1.cell? ⟨b0, 1, none⟩ = some (.string (mk (joinP F))) := hrow 1 (by simp); have d2 : w1.cell? ⟨b0, 2, none⟩ = some (.string (mk r)) := hrow 2 (by simp); have B1 := Aside0.mk hb; clear hr hb hrow))
    go_quiet (fail)
    go_wp2_with (first
          | (go_at_call 95; (with_reducible refine (HK.out _).mono ?_); rintro e w2 ⟨v0, rfl, hr, hb⟩; obtain ⟨b1, cap1, n1, rfl, hn1, hrow, -, hlt1⟩ := row_of hr (by rw [List.length_map]; exact HL0.out); rw [List.length_map] at hn1; subst hn1; have B2 := Aside0.mk (below_step (pw_below_drewN B1.out _) hb); have R2 := Aside0.mk hrow; clear hr hb hrow d1 d2))
    have C0 : Aside0 (((w2.alloc (Obj.cells (part0 [] F.length) 22)).alloc (Obj.cells #[Value.slice (some { block := w2.heap.size, off := 0 }) F.length F.length, Value.bool false, Value.string { data := #[] }, Value.string { data := #[] }] 90)).heap[w2.heap.size]? = some (.cells (part0 [] F.length) 22 (0, 0))) := ⟨blk_alloc (blk_new w2 _) _⟩
    have G0 : Aside0 (((w2.alloc (Obj.cells (part0 [] F.length) 22)).alloc (Obj.cells #[Value.slice (some { block := w2.heap.size, off := 0 }) F.length F.length, Value.bool false, Value.string { data := #[] }, Value.string { data := #[] }] 90)).heap[w2.heap.size + 1]? = some (.cells #[Value.slice (some { block := w2.heap.size, off := 0 }) F.length F.length, Value.bool false, Value.string { data := #[] }, Value.string { data := #[] }] 90 (0, 0))) := ⟨new2 w2 _ _⟩
    have B3 := Aside0.mk (below_alloc (below_alloc B2.out (Obj.cells (part0 [] F.length) 22)) (Obj.cells #[Value.slice (some { block := w2.heap.size, off := 0 }) F.length F.length, Value.bool false, Value.string { data := #[] }, Value.string { data := #[] }] 90))
    have R3 := Aside0.mk (R2.out.below (below_alloc (below_alloc (Below.refl w2.heap.size w2) (Obj.cells (part0 [] F.length) 22)) (Obj.cells #[Value.slice (some { block := w2.heap.size, off := 0 }) F.length F.length, Value.bool false, Value.string { data := #[] }, Value.string { data := #[] }] 90)))
    have hcb := B2.out.size
    clear B2 R2 q1 q3
    generalize (w2.alloc (Obj.cells (part0 [] F.length) 22)).alloc (Obj.cells #[Value.slice (some { block := w2.heap.size, off := 0 }) F.length F.length, Value.bool false, Value.string { data := #[] }, Value.string { data := #[] }] 90) = W0 at C0 G0 B3 R3 ⊢
    generalize w2.heap.size = c at C0 G0 hlt1 hcb ⊢
    go_loopw [57] (fun i wr => ∃ (k : Nat) (ns0 : List Nat), k ≤ F.length ∧ i = .int .i64 (k : Int) ∧ Aside0 (ns0.length = k) ∧ Aside0 (nums false true F = (nums false (k == 0) (F.drop k)).map (fun t => ns0 ++ t)) ∧ Aside0 (wr.heap[c]? = some (.cells (part0 ns0 (F.length - k)) 22 (0, 0))) ∧ Aside0 (wr.heap[c + 1]? = some (.cells #[Value.slice (some { block := c, off := 0 }) F.length F.length, Value.bool false, Value.string { data := #[] }, Value.string { data := #[] }] 90 (0, 0))) ∧ Aside0 (Below w.heap.size w wr) ∧ Aside0 (Row wr b1 (F.map mk))) (fun i _ => F.length - (intOf i).toNat)
    case atStart => exact ⟨0, [], Nat.zero_le _, rfl, ⟨rfl⟩, ⟨by simp⟩, C0, G0, B3, R3⟩
    case round =>
      clear C0 G0 B3 R3
      obtain ⟨k, ns0, hk, rfl, HN0, HN, HC, HGG, HB, HRow⟩ := hrel
      by_cases hlt : k < F.length
      · have p : (0 ≤ (k : Int)) = True := eq_true (by omega)
        have q : ((k : Int) < (F.length : Int)) = True := eq_true (by omega)
        have x0 : wr.cell? ⟨b1, k, none⟩ = some (.string (mk F[k])) := by
          have h := HRow.out k (by rw [List.length_map]; exact hlt)
          rw [List.getElem_map] at h; exact h
        have HN1 : Aside0 (nums false true F = (nums false (k == 0) (F[k] :: F.drop (k + 1))).map (fun t => ns0 ++ t)) := ⟨by rw [← List.drop_eq_getElem_cons hlt]; exact HN.out⟩
        obtain ⟨hf0, hf1⟩ := HF.out F[k] (List.getElem_mem hlt)
        have HX := Aside0.mk hf0
        have HX1 : Aside0 ((mk F[k]).size ≤ 281474976710656) := ⟨by rw [size_mk]; omega⟩
        have hF1 : (F.drop (k + 1)).length = F.length - (k + 1) := List.length_drop
        clear HN hf0 hf1
        generalize F[k] = f at x0 HN1 HX HX1
        by_cases k0 : k = 0
        · subst k0
          have k1 : ((0 : Nat) == 0) = true := rfl
          by_cases h48 : f = [48]
          · subst h48
            have e1 : ((Lb (mk [48])).head? == some 48) = true := rfl
            obtain ⟨u, hv⟩ : ∃ u, vn [48] = some u := ⟨0, rfl⟩
            have HU := Aside0.mk (fun w => pu_ok (mk [48]) HX1.out u hv w)
            have hnx : Aside0 (nums false true F = (nums false false (F.drop (0 + 1))).map (fun t => (ns0 ++ [u]) ++ t)) := ⟨by
              rw [HN1.out, k1, nums, if_neg (by simp [bad]), hv]
              simp only
              cases nums false false (F.drop (0 + 1)) <;> simp⟩
            clear hv
            have w9 : wrap64 ((0 : Int) + 1) = (0 : Int) + 1 := w64 _ (by omega) (by have := HL.out; omega)
            have cl : Aside0 ((part0 ns0 (F.length - 0))[0]? = some (.int .u64 0)) := ⟨part0_at HN0.out (by omega)⟩
            go_wp2_with (first
                | (go_at_call 96; (with_reducible refine (prefix_calls _ _).mono ?_); rintro e wp1 ⟨rfl, ⟨nd, rfl⟩⟩)
                | (go_at_call 97; (with_reducible refine (HU.out _).mono ?_); rintro e wu ⟨rfl, hb⟩; have Bx : Aside0 (Below wr.heap.size wr wu) := ⟨by first | exact hb | exact below_step (pw_below_drewN (Below.refl _ _) _) hb⟩; have Bu := Aside0.mk (below_step HB.out Bx.out); have Cu := Aside0.mk (blk_below HC.out Bx.out); have Gu := Aside0.mk (blk_below HGG.out Bx.out); have Ru := Aside0.mk (HRow.out.below Bx.out); have g0 : wu.cell? ⟨c + 1, 0, none⟩ = some (.slice (some ⟨c, 0, none⟩) F.length F.length) := blk_cell Gu.out 0; have cz : wu.cell? ⟨c, 0, none⟩ = some (.int .u64 0) := (blk_cell Cu.out 0).trans cl.out; have fz : wu.frozen? ⟨c, 0, none⟩ = false := blk_frozen Cu.out 0; clear hb x0))
            go_roundw
            case measure => first | (rw [w9]; exact less_of hlt) | (show F.length - (1 : Int).toNat < F.length - ((0 : Nat) : Int).toNat; omega)
            case rel =>
              refine ⟨0 + 1, ns0 ++ [u], hlt, by first | rfl | (rw [w9]; simp), ⟨by rw [List.length_append, HN0.out]; rfl⟩, ⟨by rw [(show (0 + 1 == 0) = false by simp)]; exact hnx.out⟩, ⟨?_⟩, ⟨?_⟩, ⟨?_⟩, ⟨?_⟩⟩
              · rw [show F.length - (0 + 1) = F.length - 0 - 1 by omega]; exact blk_put Cu.out 0 _ (part0_set u HN0.out (by omega))
              · exact blk_far Gu.out (show c + 1 ≠ c by omega) _
              · exact below_set Bu.out hcb
              · exact fun i hi => (cell_far (show b1 ≠ c by omega) _).trans (Ru.out i hi)
          · cases hh : (f.head? == some 48) with
            | true =>
              have hb : bad f = true := by unfold bad; rw [hh]; simpa using h48
              have e1 : ((Lb (mk f)).head? == some 48) = true := hh
              have e2 : (f == [48]) = false := beq_eq_false_iff_ne.2 h48
              have e3 : (f = [48]) = False := eq_false h48
              have hn : rest false F r = none := by unfold rest; rw [HN1.out, k1, nums, if_pos (by rw [hb]; simp)]; rfl
              go_wp2_with (first
                    | (go_at_call 96; (with_reducible refine (prefix_calls _ _).mono ?_); rintro e wp1 ⟨rfl, ⟨nd, rfl⟩⟩)
                    | (go_at_call 72; (with_reducible refine (errors_New.calls _ _).mono ?_); rintro e wn ⟨⟨x, rfl⟩, hb⟩; have Bn := Aside0.mk (below_step (pw_below_drewN HB.out _) hb); clear hb))
              go_ret2
              refine ⟨?_, Bn.out⟩
              rw [hn]
              exact ⟨_, _, rfl⟩
            | false =>
              have e1 : ((Lb (mk f)).head? == some 48) = false := hh
              cases hv : vn f with
              | none =>
                have hn : rest false F r = none := by
                  unfold rest
                  rw [HN1.out, k1, nums, hv]
                  by_cases hq : ((true || false) && bad f) = true
                  · rw [if_pos hq]; rfl
                  · rw [if_neg hq]; rfl
                have HU := Aside0.mk (fun w hg => pu_no (mk f) HX1.out hv w hg)
                clear hv
                go_wp2_with (first
                    | (go_at_call 96; (with_reducible refine (prefix_calls _ _).mono ?_); rintro e wp1 ⟨rfl, ⟨nd, rfl⟩⟩)
                    | (go_at_call 97; (with_reducible refine (HU.out _ (HG.out.below (pw_below_drewN HB.out _))).mono ?_); rintro e wu ⟨⟨xu, Tu, yu, rfl⟩, hb⟩; have Bu := Aside0.mk (below_step (pw_below_drewN HB.out _) hb); clear hb)
                    | (go_at_call 72; (with_reducible refine (errors_New.calls _ _).mono ?_); rintro e wn ⟨⟨x, rfl⟩, hb⟩; have Bn := Aside0.mk (below_step Bu.out hb); clear hb))
                go_ret2
                refine ⟨?_, Bn.out⟩
                rw [hn]
                exact ⟨_, _, rfl⟩
              | some u =>
                have HU := Aside0.mk (fun w => pu_ok (mk f) HX1.out u hv w)
                have hnx : Aside0 (nums false true F = (nums false false (F.drop (0 + 1))).map (fun t => (ns0 ++ [u]) ++ t)) := ⟨by
                  rw [HN1.out, k1, nums, if_neg (by rw [(show bad f = false by unfold bad; rw [hh]; rfl)]; simp), hv]
                  simp only
                  cases nums false false (F.drop (0 + 1)) <;> simp⟩
                clear hv
                have w9 : wrap64 ((0 : Int) + 1) = (0 : Int) + 1 := w64 _ (by omega) (by have := HL.out; omega)
                have cl : Aside0 ((part0 ns0 (F.length - 0))[0]? = some (.int .u64 0)) := ⟨part0_at HN0.out (by omega)⟩
                go_wp2_with (first
                    | (go_at_call 96; (with_reducible refine (prefix_calls _ _).mono ?_); rintro e wp1 ⟨rfl, ⟨nd, rfl⟩⟩)
                    | (go_at_call 97; (with_reducible refine (HU.out _).mono ?_); rintro e wu ⟨rfl, hb⟩; have Bx : Aside0 (Below wr.heap.size wr wu) := ⟨by first | exact hb | exact below_step (pw_below_drewN (Below.refl _ _) _) hb⟩; have Bu := Aside0.mk (below_step HB.out Bx.out); have Cu := Aside0.mk (blk_below HC.out Bx.out); have Gu := Aside0.mk (blk_below HGG.out Bx.out); have Ru := Aside0.mk (HRow.out.below Bx.out); have g0 : wu.cell? ⟨c + 1, 0, none⟩ = some (.slice (some ⟨c, 0, none⟩) F.length F.length) := blk_cell Gu.out 0; have cz : wu.cell? ⟨c, 0, none⟩ = some (.int .u64 0) := (blk_cell Cu.out 0).trans cl.out; have fz : wu.frozen? ⟨c, 0, none⟩ = false := blk_frozen Cu.out 0; clear hb x0))
                go_roundw
                case measure => first | (rw [w9]; exact less_of hlt) | (show F.length - (1 : Int).toNat < F.length - ((0 : Nat) : Int).toNat; omega)
                case rel =>
                  refine ⟨0 + 1, ns0 ++ [u], hlt, by first | rfl | (rw [w9]; simp), ⟨by rw [List.length_append, HN0.out]; rfl⟩, ⟨by rw [(show (0 + 1 == 0) = false by simp)]; exact hnx.out⟩, ⟨?_⟩, ⟨?_⟩, ⟨?_⟩, ⟨?_⟩⟩
                  · rw [show F.length - (0 + 1) = F.length - 0 - 1 by omega]; exact blk_put Cu.out 0 _ (part0_set u HN0.out (by omega))
                  · exact blk_far Gu.out (show c + 1 ≠ c by omega) _
                  · exact below_set Bu.out hcb
                  · exact fun i hi => (cell_far (show b1 ≠ c by omega) _).trans (Ru.out i hi)
        · skip
          have z1 : ((k : Int) == 0) = false := beq_eq_false_iff_ne.2 (by omega)
          have z2 : ((k : Int) = 0) = False := eq_false (by omega)
          have k1 : (k == 0) = false := beq_eq_false_iff_ne.2 k0
          cases hv : vn f with
          | none =>
            have hn : rest false F r = none := by
              unfold rest
              rw [HN1.out, k1, nums, hv]
              by_cases hq : ((false || false) && bad f) = true
              · rw [if_pos hq]; rfl
              · rw [if_neg hq]; rfl
            have HU := Aside0.mk (fun w hg => pu_no (mk f) HX1.out hv w hg)
            clear hv
            go_wp2_with (first
                | (go_at_call 97; (with_reducible refine (HU.out _ (HG.out.below HB.out)).mono ?_); rintro e wu ⟨⟨xu, Tu, yu, rfl⟩, hb⟩; have Bu := Aside0.mk (below_step HB.out hb); clear hb)
                | (go_at_call 72; (with_reducible refine (errors_New.calls _ _).mono ?_); rintro e wn ⟨⟨x, rfl⟩, hb⟩; have Bn := Aside0.mk (below_step Bu.out hb); clear hb))
            go_ret2
            refine ⟨?_, Bn.out⟩
            rw [hn]
            exact ⟨_, _, rfl⟩
          | some u =>
            have HU := Aside0.mk (fun w => pu_ok (mk f) HX1.out u hv w)
            have hnx : Aside0 (nums false true F = (nums false false (F.drop (k + 1))).map (fun t => (ns0 ++ [u]) ++ t)) := ⟨by
              rw [HN1.out, k1, nums, if_neg (by simp), hv]
              simp only
              cases nums false false (F.drop (k + 1)) <;> simp⟩
            clear hv
            have w9 : wrap64 ((k : Int) + 1) = (k : Int) + 1 := w64 _ (by omega) (by have := HL.out; omega)
            have cl : Aside0 ((part0 ns0 (F.length - k))[k]? = some (.int .u64 0)) := ⟨part0_at HN0.out (by omega)⟩
            go_wp2_with (first
                | (go_at_call 97; (with_reducible refine (HU.out _).mono ?_); rintro e wu ⟨rfl, hb⟩; have Bx : Aside0 (Below wr.heap.size wr wu) := ⟨by first | exact hb | exact below_step (pw_below_drewN (Below.refl _ _) _) hb⟩; have Bu := Aside0.mk (below_step HB.out Bx.out); have Cu := Aside0.mk (blk_below HC.out Bx.out); have Gu := Aside0.mk (blk_below HGG.out Bx.out); have Ru := Aside0.mk (HRow.out.below Bx.out); have g0 : wu.cell? ⟨c + 1, 0, none⟩ = some (.slice (some ⟨c, 0, none⟩) F.length F.length) := blk_cell Gu.out 0; have cz : wu.cell? ⟨c, k, none⟩ = some (.int .u64 0) := (blk_cell Cu.out k).trans cl.out; have fz : wu.frozen? ⟨c, k, none⟩ = false := blk_frozen Cu.out k; clear hb x0))
            go_roundw
            case measure => first | (rw [w9]; exact less_of hlt) | (show F.length - (1 : Int).toNat < F.length - ((0 : Nat) : Int).toNat; omega)
            case rel =>
              refine ⟨k + 1, ns0 ++ [u], hlt, by first | rfl | (rw [w9]; simp), ⟨by rw [List.length_append, HN0.out]; rfl⟩, ⟨by rw [(show (k + 1 == 0) = false by simp)]; exact hnx.out⟩, ⟨?_⟩, ⟨?_⟩, ⟨?_⟩, ⟨?_⟩⟩
              · rw [show F.length - (k + 1) = F.length - k - 1 by omega]; exact blk_put Cu.out k _ (part0_set u HN0.out (by omega))
              · exact blk_far Gu.out (show c + 1 ≠ c by omega) _
              · exact below_set Bu.out hcb
              · exact fun i hi => (cell_far (show b1 ≠ c by omega) _).trans (Ru.out i hi)
      · have q : ((k : Int) < (F.length : Int)) = False := eq_false (by omega)
        have hkF : k = F.length := by omega
        subst hkF
        have hns : nums false true F = some ns0 := by
          rw [HN.out, List.drop_length, nums]; simp
        have C1 : Aside0 (wr.heap[c]? = some (.cells (ns0.map fun n : Nat => Value.int .u64 (n : Int)).toArray 22 (0, 0))) := ⟨by
          have h := HC.out
          rw [Nat.sub_self] at h
          rw [h]; unfold part0; simp⟩
        have hlt0 : w.heap.size ≤ c + 1 := by omega
        have hR : rest false F r = some (ns0, [], []) := by unfold rest; rw [hns]; rfl
        clear hns
        go_wp2
        go_ret2
        refine ⟨?_, HB.out⟩
        rw [hR]
        exact ⟨c + 1, c, rfl, ⟨by rw [HN0.out]; exact HGG.out, C1.out⟩, hlt0, hcb⟩
end Go.Proofs.YtomoefldmgfaoaaDoor.Pv
