/- Pairs as fields; what selectors tell of them. -/
import Derived.Test.YthejejeginnbdaaGreatDoorFdP
set_option linter.unusedVariables false
set_option linter.unusedSimpArgs false
namespace Go.Proofs.YthejejeginnbdaaGreatDoor.Fd
open Go Go.RowKit Go.Maps Go.Proofs.YthejejeginnbdaaGreatDoorW.PrintWords Go.Proofs.YthejejeginnbdaaGreatDoor.Txt Go.Proofs.YthejejeginnbdaaGreatDoor Go.Proofs.YthejejeginnbdaaGreatDoor.PFnFieldTurn Go.Proofs.YthejejeginnbdaaGreatDoor.EscN Go.Proofs.YthejejeginnbdaaGreatDoor.FdN Go.Proofs.YthejejeginnbdaaGreatDoor.FdC Go.Proofs.YthejejeginnbdaaGreatDoor.FdS Go.Proofs.YthejejeginnbdaaGreatDoor.FdU

theorem lawS : Keyed Tryz.prog 9 := string_keyed Tryz.underlying9
theorem zeroS (w : World) : (zeroValue 9).run Tryz.prog w = .ok (.string ⟨#[]⟩) w := by kernel_rfl

/-- The value of a key: the last pair's. -/
def findP : List S43 → ByteArray → Option ByteArray
  | [], _ => none
  | x :: r, k => match findP r k with
    | some v => some v
    | none => if x.f0.data.toList = k.data.toList then some x.f1 else none
theorem find_snoc (L : List S43) (x : S43) (k : ByteArray) : findP (L ++ [x]) k = if x.f0.data.toList = k.data.toList then some x.f1 else findP L k := by
  induction L with
  | nil => simp [findP]
  | cons y r ih =>
    rw [List.cons_append, findP, ih]
    by_cases h : x.f0.data.toList = k.data.toList
    · simp only [if_pos h]
    · simp only [if_neg h]; rfl
/-- A block that is a map of just these pairs. -/
def IsMapS (w : World) (b n : Nat) (L : List S43) : Prop :=
  ∃ D : DataW Unit, w.ownsMap Tryz.prog 9 (plainElem Tryz.prog 9) b n D ∧ ∀ (k : ByteArray) (zd : DataW Unit), Maps.has D (.string k.data.toList) = (findP L k).isSome ∧ D.atKey (.string k.data.toList) zd = (match findP L k with | some v => .lit (.string v.data.toList) | none => zd)
theorem IsMapS.lt {w : World} {b n : Nat} {L : List S43} (h : IsMapS w b n L) : b < w.heap.size := by
  obtain ⟨D, h1, h2⟩ := h
  exact h1.lt
theorem IsMapS.kept {w w' : World} {b n : Nat} {L : List S43} {row : Option Nat} (h : IsMapS w b n L) (g : w.grownBy w' row) (hr : some b ≠ row) : IsMapS w' b n L := by
  obtain ⟨D, h1, h2⟩ := h
  exact ⟨D, h1.kept g hr, h2⟩
theorem IsMapS.made (w : World) : IsMapS (w.alloc (.map #[] 0)) w.heap.size 0 [] := by
  refine ⟨.map [], World.ownsMap_made _ _ _ _, fun k zd => ?_⟩
  simp [Maps.has, findP, DataW.atKey]
theorem elemE : plainElem (H := Unit) Tryz.prog 9 (.string ⟨#[]⟩) = some (.lit (.string []), []) := plainElem_string Tryz.underlying9 (s := ⟨#[]⟩) (Nat.zero_le _)
theorem IsMapS.below {w w' : World} {b n : Nat} {L : List S43} (h : IsMapS w b n L) (g : Below w.heap.size w w') : IsMapS w' b n L := h.kept (grown_of_below g none) (by simp)
theorem IsMapS.drew {w : World} {b n : Nat} {L : List S43} (h : IsMapS w b n L) : IsMapS w.drew b n L := h.below (below_drew1 (Below.refl _ _))
theorem rd37 {l : List S43} {i : Nat} (h : i < l.length) : rd_T43 l (i : Int) = l[i] := by simp [rd_T43, List.getD_eq_getElem?_getD, List.getElem?_eq_getElem h]
theorem run_made (w : World) : (Instr.makeMap 53 none).run Tryz.prog w = .ok (.map (some w.heap.size)) (w.alloc (.map #[] 0)) := by
  simp [Instr.makeMap, run_underlying Tryz.underlying53, Result.andThen]
theorem put_some {D : DataW Unit} {L : List S43} {x : S43} (hm : IsMap D) (h : ∀ (k : ByteArray) (zd : DataW Unit), Maps.has D (.string k.data.toList) = (findP L k).isSome ∧ D.atKey (.string k.data.toList) zd = (match findP L k with | some v => .lit (.string v.data.toList) | none => zd)) (k : ByteArray) (zd : DataW Unit) :
    Maps.has (D.put (.string x.f0.data.toList) (.lit (.string x.f1.data.toList))) (.string k.data.toList) = (findP (L ++ [x]) k).isSome ∧ (D.put (.string x.f0.data.toList) (.lit (.string x.f1.data.toList))).atKey (.string k.data.toList) zd = (match findP (L ++ [x]) k with | some v => .lit (.string v.data.toList) | none => zd) := by
  rw [find_snoc]
  by_cases e : x.f0.data.toList = k.data.toList
  · rw [if_pos e, ← e, has_put_same hm (show WideAt.IsKeyLit (Lit.string x.f0.data.toList) from trivial), atKey_put_same hm (show WideAt.IsKeyLit (Lit.string x.f0.data.toList) from trivial)]
    exact ⟨rfl, rfl⟩
  · rw [if_neg e, has_put_other (fun z => e (by injection z with z; exact z.symm)), atKey_put_other (fun z => e (by injection z with z; exact z.symm))]
    exact h k zd
set_option maxRecDepth 100000 in
set_option maxHeartbeats 2000000 in
theorem fieldSet_any (A : Option Addr) (c : Nat) (L : List S43) (w : World) (hr : Kd.C k43 w A L.length L) (hn : L.length ≤ 4294967296) (hsz : ∀ x ∈ L, x.f0.size ≤ 4294967296 ∧ x.f1.size ≤ 4294967296) :
    Calls Tryz.prog 20 #[.slice A L.length c] w fun e w' => ∃ b, e = .returned (.map (some b)) ∧ IsMapS w' b L.length L ∧ Below w.heap.size w w' := by
  have HR := Aside0.mk hr
  have HS := Aside0.mk hsz
  have hmm := run_made
  have hu := Tryz.underlying43
  obtain ⟨W0, hW0⟩ : ∃ W0, W0 = w.alloc (.map #[] 0) := ⟨_, rfl⟩
  have HM0 : Aside0 (IsMapS W0 w.heap.size 0 []) := ⟨by rw [hW0]; exact IsMapS.made w⟩
  have HB0 : Aside0 (Below w.heap.size w W0) := ⟨by rw [hW0]; exact below_alloc (Below.refl _ _) _⟩
  clear hr hsz
  go_enter Tryz.func20, Tryz.ntmps20
  go_wp2
  rw [← hW0]
  clear hmm hW0
  go_loopw [9] (fun i wr => ∃ k : Nat, k ≤ L.length ∧ i = .int .i64 (k : Int) ∧ Aside0 (IsMapS wr w.heap.size k (L.take k)) ∧ Aside0 (Below w.heap.size w wr)) (fun i _ => L.length - (intOf i).toNat)
  case atStart => exact ⟨0, Nat.zero_le _, rfl, ⟨by simpa using HM0.out⟩, HB0⟩
  case round =>
    clear HM0 HB0
    obtain ⟨k, hk, rfl, HM, HB⟩ := hrel
    by_cases hlt : k < L.length
    · have p : (0 ≤ (k : Int)) = True := eq_true (by omega)
      have q : ((k : Int) < (L.length : Int)) = True := eq_true (by omega)
      obtain ⟨ad, rfl, x0, x1⟩ := at_T43 HR.out (k : Int) (by omega) (by omega)
      simp only [Int.toNat_natCast] at x0 x1
      replace x0 := (HB.out.cell (World.block_lt_of_cell? w _ x0)).trans x0
      replace x1 := (HB.out.cell (World.block_lt_of_cell? w _ x1)).trans x1
      rw [rd37 hlt] at x0 x1
      have hz := HS.out _ (List.getElem_mem hlt)
      have ht : Aside0 (L.take (k + 1) = L.take k ++ [L[k]]) := ⟨List.take_succ_eq_append_getElem hlt⟩
      have hbn := HM.out.lt
      obtain ⟨D, hown, hD⟩ := HM.out
      have HD := Aside0.mk hD
      have HI := Aside0.mk (hown.isMap)
      have HO := Aside0.mk hown
      clear hD hown
      generalize L[k] = x at x0 x1 hz ht
      go_wp2_with (first | (at_mapUpdate; refine wpList_mapUpdate_own _ rfl _ _ _ 53 rfl 9 9 lawS Tryz.underlying53 (plainElem Tryz.prog 9) w.heap.size k D rfl (HO.out.alloc _) ?m1 _ _ _ rfl rfl (WideMaps.keyOf_string_mk Tryz.underlying9 (s := x.f0) ?m2) _ [] (plainElem_string Tryz.underlying9 (s := x.f1) ?m3) ?_; (case m1 => unfold maxLen; omega); (case m2 => unfold maxLen; omega); (case m3 => unfold maxLen; omega); intro w1 hown1 hgrow1; go_frame))
      have HO1 := Aside0.mk hown1
      have HG1 := Aside0.mk hgrow1
      clear hown1 hgrow1
      go_wp2
      go_roundw
      case rel =>
        refine ⟨k + 1, by omega, by go_num, ⟨⟨_, HO1.out, fun kk zd => ?_⟩⟩, ⟨(below_alloc HB.out _).grown HG1.out (by simp; omega) (fun j hj => by cases hj; exact Nat.le_refl _)⟩⟩
        rw [ht.out]
        exact put_some HI.out HD.out kk zd
      case measure => simp [intOf]; omega
    · have q : ((k : Int) < (L.length : Int)) = False := eq_false (by omega)
      go_wp2
      go_ret
      have : k = L.length := by omega
      subst this
      exact ⟨_, rfl, by have := HM.out; rw [List.take_length] at this; exact this, HB.out⟩

def getP (L : List S43) (k : ByteArray) : ByteArray := (findP L k).getD ⟨#[]⟩
set_option maxRecDepth 100000 in
theorem get_any (b n : Nat) (L : List S43) (k : ByteArray) (w : World) (hs : IsMapS w b n L) (hk : k.size ≤ maxLen) :
    Calls Tryz.prog 128 #[.map (some b), .string k] w fun e w' => e = .returned (.string (getP L k)) ∧ w = w' := by
  obtain ⟨D, hown, hD⟩ := hs
  obtain ⟨v, ps, hrun, hv⟩ := hown.lookup lawS Tryz.underlying53 (zeroS w) (zd := .lit (.string [])) (zp := []) elemE (WideMaps.keyOf_string_mk Tryz.underlying9 hk)
  obtain ⟨u, rfl, hu, _⟩ := plainElem_string_inv Tryz.underlying9 hv
  have h2 := (hD k (.lit (.string []))).2
  have hu' : (D.atKey (.string k.data.toList) (.lit (.string [])) : DataW Unit) = .lit (.string u.data.toList) := congrArg Prod.fst hu
  have he : u = getP L k := by
    rw [hu'] at h2
    unfold getP
    cases hf : findP L k with
    | none => rw [hf] at h2; injection h2 with h2; injection h2 with h2; exact ext h2
    | some v => rw [hf] at h2; injection h2 with h2; injection h2 with h2; exact ext h2
  rw [← he]
  clear hv hu hu' h2 he hD hown
  go_enter Tryz.func128, Tryz.ntmps128
  go_wp2
  go_ret
  exact ⟨rfl, rfl⟩
theorem na_Get (b : Nat) (w : World) : (nilAhead 268 53 (.map (some b)) "Get").run Tryz.prog w = .ok (some false) w := by kernel_rfl
theorem me_Get (b : Nat) (w : World) : (method 268 53 (.map (some b)) "Get").run Tryz.prog w = .ok (128, .map (some b)) w := by kernel_rfl
/-- What a term tells of pairs. -/
def matchT (L : List S43) (t : Tm) : Bool := ((getP L t.2.1).toList == t.2.2.toList) == t.1
set_option maxRecDepth 100000 in
set_option maxHeartbeats 4000000 in
theorem matches_true (g : Nat) (f v : ByteArray) (b n : Nat) (L : List S43) (w : World) (h : TermAt w (true, g) (true, f, v)) (hm : IsMapS w b n L) (hf : f.size ≤ maxLen) :
    Calls Tryz.prog 108 #[.pointer (some ⟨g, 0, none⟩), .iface 53 (.map (some b))] w fun e w' => e = .returned (.bool (matchT L (true, f, v))) ∧ Below w.heap.size w w' := by
  have mixed : Tryz.prog.follows .mixedOrders = true := by kernel_rfl
  have hu := Tryz.underlying75
  have c0 : w.cell? ⟨g, 0, none⟩ = some (.string f) := blk_cell h.2 0
  have c1 : w.cell? ⟨g, 1, none⟩ = some (.string v) := blk_cell h.2 1
  have HM := Aside0.mk (get_any b n L f w.drew hm.drew hf)
  have na := na_Get b
  have me := me_Get b
  clear h hm hf
  go_enter Tryz.func108, Tryz.ntmps108
  go_wp2
  go_region_held3 (fun w' => w'.cell? ⟨g, 0, none⟩ = some (.string f) ∧ w'.cell? ⟨g, 1, none⟩ = some (.string v)) (first | exact ⟨c0, c1⟩)
    (first | (go_at_call 128; (with_reducible refine (HM.out).mono ?_); rintro e w1 ⟨rfl, rfl⟩))
  all_goals go_wp2
  all_goals go_ret
  all_goals exact ⟨by unfold matchT; first | rfl | (simp; done) | (cases ((getP L f).toList == v.toList) <;> rfl) | (simp; cases ((getP L f).toList == v.toList) <;> rfl), below_drew1 (Below.refl _ _)⟩
set_option maxRecDepth 100000 in
set_option maxHeartbeats 4000000 in
theorem matches_false (g : Nat) (f v : ByteArray) (b n : Nat) (L : List S43) (w : World) (h : TermAt w (false, g) (false, f, v)) (hm : IsMapS w b n L) (hf : f.size ≤ maxLen) :
    Calls Tryz.prog 99 #[.pointer (some ⟨g, 0, none⟩), .iface 53 (.map (some b))] w fun e w' => e = .returned (.bool (matchT L (false, f, v))) ∧ Below w.heap.size w w' := by
  have mixed : Tryz.prog.follows .mixedOrders = true := by kernel_rfl
  have hu := Tryz.underlying73
  have c0 : w.cell? ⟨g, 0, none⟩ = some (.string f) := blk_cell h.2 0
  have c1 : w.cell? ⟨g, 1, none⟩ = some (.string v) := blk_cell h.2 1
  have HM := Aside0.mk (get_any b n L f w.drew hm.drew hf)
  have na := na_Get b
  have me := me_Get b
  clear h hm hf
  go_enter Tryz.func99, Tryz.ntmps99
  go_wp2
  go_region_held3 (fun w' => w'.cell? ⟨g, 0, none⟩ = some (.string f) ∧ w'.cell? ⟨g, 1, none⟩ = some (.string v)) (first | exact ⟨c0, c1⟩)
    (first | (go_at_call 128; (with_reducible refine (HM.out).mono ?_); rintro e w1 ⟨rfl, rfl⟩))
  all_goals go_wp2
  all_goals go_ret
  all_goals exact ⟨by unfold matchT; first | rfl | (simp; done) | (cases ((getP L f).toList == v.toList) <;> rfl) | (simp; cases ((getP L f).toList == v.toList) <;> rfl), below_drew1 (Below.refl _ _)⟩
theorem all_take (L : List S43) (ts : List Tm) (k : Nat) (h : k < ts.length) : (ts.take (k + 1)).all (matchT L) = ((ts.take k).all (matchT L) && matchT L ts[k]) := by
  rw [List.take_succ_eq_append_getElem h, List.all_append]; simp
set_option maxRecDepth 1000000 in
set_option maxHeartbeats 12800000 in
theorem andMatches_any (A : Option Addr) (c : Nat) (xs : List (Bool × Nat)) (ts : List Tm) (b n : Nat) (L : List S43) (w : World) (hC : kI.C w A xs.length xs) (hT : Terms w xs ts) (hl : ts.length ≤ 8589934592) (hm : IsMapS w b n L) (hf : ∀ t ∈ ts, t.2.1.size ≤ maxLen) :
    Calls Tryz.prog 119 #[.slice A ts.length c, .iface 53 (.map (some b))] w fun e w' => e = .returned (.bool (ts.all (matchT L))) ∧ Below w.heap.size w w' := by
  have mixed : Tryz.prog.follows .mixedOrders = true := by kernel_rfl
  have HC := Aside0.mk hC
  have HT := Aside0.mk hT
  have HLL := Aside0.mk hl
  have hlen : xs.length = ts.length := hT.len
  have HLEN := Aside0.mk hlen
  have HM0 := Aside0.mk hm
  have HF := Aside0.mk hf
  clear hC hT hl hlen hm hf
  go_enter Tryz.func119, Tryz.ntmps119
  go_wp2
  go_loopw [9] (fun i wr => ∃ (k : Nat), k ≤ ts.length ∧ i = .int .i64 (k : Int) ∧ Aside0 ((ts.take k).all (matchT L) = true) ∧ Aside0 (Below w.heap.size w wr)) (fun i _ => ts.length - (intOf i).toNat)
  case atStart => exact ⟨0, Nat.zero_le _, rfl, ⟨rfl⟩, ⟨Below.refl _ _⟩⟩
  case round =>
    obtain ⟨k, hk, rfl, HA, HB⟩ := hrel
    by_cases hlt : k < ts.length
    · have p : (0 ≤ (k : Int)) = True := eq_true (by omega)
      have q : ((k : Int) < (ts.length : Int)) = True := eq_true (by omega)
      have w9 : wrap64 ((k : Int) + 1) = ((k + 1 : Nat) : Int) := Small.w64s k (by have := HLL.out; omega)
      have W9 := Aside0.mk w9
      obtain ⟨ad, rfl, hx⟩ := at_I (Kd.C_below HC.out HB.out) (k : Int) (by omega) (by have := HLEN.out; omega)
      rw [Int.toNat_natCast] at hx
      have ht := (HT.out.below HB.out).at k hlt
      have hall := all_take L ts k hlt
      rw [HA.out, Bool.true_and] at hall
      have HM := Aside0.mk (show ts.length - (((k + 1 : Nat) : Int)).toNat < ts.length - ((k : Int)).toNat by omega)
      have HK := Aside0.mk (show k + 1 ≤ ts.length from hlt)
      have hfk := HF.out _ (List.getElem_mem hlt)
      have hno : matchT L ts[k] = false → ts.all (matchT L) = false := fun e => by
        rw [List.all_eq_false]; exact ⟨ts[k], List.getElem_mem hlt, by rw [e]; simp⟩
      generalize rdOf (true, 0) xs (k : Int) = x at hx ht
      generalize ts[k] = t at ht hall hfk hno
      obtain ⟨bb, f, v⟩ := t
      obtain ⟨xb, g⟩ := x
      obtain ⟨hb0, hblk⟩ := ht
      have hb1 : xb = bb := hb0
      subst hb1
      clear hk hlt w9
      cases xb with
      | true =>
        have hx' : wr.cell? (ad.add k) = some (.iface 74 (.pointer (some ⟨g, 0, none⟩))) := hx
        clear hx
        have hma := matches_true g f v b n L wr ⟨rfl, hblk⟩ (HM0.out.below HB.out) hfk
        have nat := na_Matches_true g
        have met := me_Matches_true g
        cases hq : matchT L (true, f, v) with
        | true =>
          rw [hq] at hma hall
          have HMA := Aside0.mk hma
          have HALL := Aside0.mk hall
          clear hma hall hq hno hblk hb0 hfk
          go_wp2_with (first | (go_at_call 108; (with_reducible refine (HMA.out).mono ?_); rintro e w1 ⟨rfl, hb⟩; have B1 := Aside0.mk (below_step HB.out hb); clear hb))
          go_roundw
          case measure => rw [W9.out]; exact HM.out
          case rel => exact ⟨k + 1, HK.out, by rw [W9.out], HALL, B1⟩
        | false =>
          rw [hq] at hma
          have HMA := Aside0.mk hma
          have HNO := Aside0.mk (hno hq)
          clear hma hall hq hno hblk hb0 hfk
          go_wp2_with (first | (go_at_call 108; (with_reducible refine (HMA.out).mono ?_); rintro e w1 ⟨rfl, hb⟩; have B1 := Aside0.mk (below_step HB.out hb); clear hb))
          go_ret
          exact ⟨by rw [HNO.out]; rfl, B1.out⟩
      | false =>
        have hx' : wr.cell? (ad.add k) = some (.iface 71 (.pointer (some ⟨g, 0, none⟩))) := hx
        clear hx
        have hma := matches_false g f v b n L wr ⟨rfl, hblk⟩ (HM0.out.below HB.out) hfk
        have nat := na_Matches_false g
        have met := me_Matches_false g
        cases hq : matchT L (false, f, v) with
        | true =>
          rw [hq] at hma hall
          have HMA := Aside0.mk hma
          have HALL := Aside0.mk hall
          clear hma hall hq hno hblk hb0 hfk
          go_wp2_with (first | (go_at_call 99; (with_reducible refine (HMA.out).mono ?_); rintro e w1 ⟨rfl, hb⟩; have B1 := Aside0.mk (below_step HB.out hb); clear hb))
          go_roundw
          case measure => rw [W9.out]; exact HM.out
          case rel => exact ⟨k + 1, HK.out, by rw [W9.out], HALL, B1⟩
        | false =>
          rw [hq] at hma
          have HMA := Aside0.mk hma
          have HNO := Aside0.mk (hno hq)
          clear hma hall hq hno hblk hb0 hfk
          go_wp2_with (first | (go_at_call 99; (with_reducible refine (HMA.out).mono ?_); rintro e w1 ⟨rfl, hb⟩; have B1 := Aside0.mk (below_step HB.out hb); clear hb))
          go_ret
          exact ⟨by rw [HNO.out]; rfl, B1.out⟩
    · have q : ((k : Int) < (ts.length : Int)) = False := eq_false (by omega)
      have HA2 : Aside0 (ts.all (matchT L) = true) := ⟨by have := HA.out; rw [List.take_of_length_le (by omega)] at this; exact this⟩
      go_wp2
      go_ret
      exact ⟨by rw [HA2.out]; rfl, HB.out⟩
set_option maxRecDepth 1000000 in
set_option maxHeartbeats 4000000 in
theorem andEmpty_some (A : Option Addr) (c : Nat) (xs : List (Bool × Nat)) (ts : List Tm) (w : World) (hC : kI.C w A xs.length xs) (hT : Terms w xs ts) (hl : ts.length ≤ 8589934592) (h0 : ts ≠ []) :
    Calls Tryz.prog 118 #[.slice A ts.length c] w fun e w' => e = .returned (.bool false) ∧ Below w.heap.size w w' := by
  have mixed : Tryz.prog.follows .mixedOrders = true := by kernel_rfl
  have hpos : 0 < ts.length := List.length_pos_iff.2 h0
  have hlen := hT.len
  obtain ⟨ad, rfl, hx⟩ := at_I hC (0 : Int) (by omega) (by omega)
  have ht := hT.at 0 hpos
  have e0 : ((0 : Nat) : Int) = 0 := rfl
  rw [e0] at ht
  generalize rdOf (true, 0) xs (0 : Int) = x at hx ht
  generalize ts[0] = t at ht
  obtain ⟨bb, f, v⟩ := t
  obtain ⟨xb, g⟩ := x
  obtain ⟨hb0, hblk⟩ := ht
  have hb1 : xb = bb := hb0
  subst hb1
  rw [show (0 : Int).toNat = 0 from rfl, Addr.add_zero'] at hx
  have en1 : ∀ W a n c, (binOp .eql 91 (.slice (some a) n c) (.slice none 0 0)).run Tryz.prog W = .ok (.bool false) W := fun W a n c => Lib.run_eql_slice_some_nil W a n c Tryz.underlying91
  have z1 : ((ts.length : Int) == 0) = false := beq_eq_false_iff_ne.2 (by omega)
  have z2 : ((ts.length : Int) = 0) = False := eq_false (by omega)
  have z3 : (ts.length = 0) = False := eq_false (by omega)
  have z4 : ((0 : Int) < (ts.length : Int)) = True := eq_true (by omega)
  have z5 : (0 < ts.length) = True := eq_true hpos
  have z6 : (ts = []) = False := eq_false h0
  have z7 : ts.isEmpty = false := by cases ts with | nil => exact absurd rfl h0 | cons a b => rfl
  clear hpos hlen hC hT hl h0 hb0
  cases xb with
  | true =>
    have hx' : w.cell? ad = some (.iface 74 (.pointer (some ⟨g, 0, none⟩))) := hx
    clear hx hblk
    have nat := na_Empty_true g
    have met := me_Empty_true g
    go_enter Tryz.func118, Tryz.ntmps118
    go_wp2
    refine wp_loop_rounds 1 ?_
    rw [rounds_succ]
    go_wp2_with (first | (go_at_call 107; (with_reducible refine (empty_true _ _).mono ?_); rintro e w1 ⟨rfl, rfl⟩))
    go_ret
    exact ⟨rfl, Below.refl _ _⟩
  | false =>
    have hx' : w.cell? ad = some (.iface 71 (.pointer (some ⟨g, 0, none⟩))) := hx
    clear hx hblk
    have nat := na_Empty_false g
    have met := me_Empty_false g
    go_enter Tryz.func118, Tryz.ntmps118
    go_wp2
    refine wp_loop_rounds 1 ?_
    rw [rounds_succ]
    go_wp2_with (first | (go_at_call 98; (with_reducible refine (empty_false _ _).mono ?_); rintro e w1 ⟨rfl, rfl⟩))
    go_ret
    exact ⟨rfl, Below.refl _ _⟩
end Go.Proofs.YthejejeginnbdaaGreatDoor.Fd
