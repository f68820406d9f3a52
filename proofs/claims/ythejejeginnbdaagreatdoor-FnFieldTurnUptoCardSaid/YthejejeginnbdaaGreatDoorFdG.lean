/- Terms as they are written: the reference's text; two rows that are the same. -/
import Derived.Test.YthejejeginnbdaaGreatDoorFdH
set_option linter.unusedVariables false
set_option linter.unusedSimpArgs false
namespace Go.Proofs.YthejejeginnbdaaGreatDoor.Fd
open Go Go.RowKit Go.Maps Go.Proofs.YthejejeginnbdaaGreatDoorW.PrintWords Go.Proofs.YthejejeginnbdaaGreatDoor.Txt Go.Proofs.YthejejeginnbdaaGreatDoor Go.Proofs.YthejejeginnbdaaGreatDoor.PFnFieldTurn Go.Proofs.YthejejeginnbdaaGreatDoor.EscN Go.Proofs.YthejejeginnbdaaGreatDoor.FdN Go.Proofs.YthejejeginnbdaaGreatDoor.FdC Go.Proofs.YthejejeginnbdaaGreatDoor.FdS Go.Proofs.YthejejeginnbdaaGreatDoor.FdU

theorem joinTail_snoc (sep : List UInt8) (r : List (List UInt8)) (y : List UInt8) : Lib.joinTail sep (r ++ [y]) = Lib.joinTail sep r ++ sep ++ y := by
  unfold Lib.joinTail; simp [List.append_assoc]
theorem join_snoc (xs : List (List UInt8)) (y sep : List UInt8) (h : xs ≠ []) : Lib.join (xs ++ [y]) sep = Lib.join xs sep ++ sep ++ y := by
  cases xs with
  | nil => exact absurd rfl h
  | cons x r => rw [List.cons_append, Lib.join_cons, Lib.join_cons, joinTail_snoc]; simp only [List.append_assoc]
theorem joinT_snoc (M : List Tm) (t : Tm) (h : M ≠ []) : joinT (M ++ [t]) = joinT M ++ (⟨#[44]⟩ : ByteArray) ++ txt t := by
  apply ext
  unfold joinT
  rw [data_append, data_append, data_mk, data_mk, List.map_append, List.map_append]
  exact join_snoc _ _ _ (by simpa using h)
def tot (M : List Tm) : Nat := (M.map fun t => (txt t).size + 1).sum
theorem joinT_le (M : List Tm) : (joinT M).size ≤ tot M := by
  rw [size_len]
  unfold joinT
  rw [data_mk]
  cases M with
  | nil => exact Nat.zero_le _
  | cons t r =>
    rw [List.map_cons, List.map_cons, Lib.join_cons, List.length_append, Lib.joinTail_length]
    have : ∀ r : List Tm, [(44 : UInt8)].length * ((r.map txt).map (·.data.toList)).length + Lib.lens ((r.map txt).map (·.data.toList)) = tot r := by
      intro r
      induction r with
      | nil => rfl
      | cons u r ih =>
        unfold tot Lib.lens at ih ⊢
        simp only [List.map_cons, List.sum_cons, List.length_cons, List.length_nil] at ih ⊢
        have := size_len (txt u)
        omega
    rw [this]
    unfold tot
    rw [List.map_cons, List.sum_cons]
    have := size_len (txt t)
    omega
theorem tot_take (M : List Tm) (k : Nat) : tot (M.take k) ≤ tot M := by
  induction M generalizing k with
  | nil => simp [tot]
  | cons t r ih =>
    cases k with
    | zero => simp [tot]
    | succ k =>
      have := ih k
      unfold tot at this ⊢
      simp only [List.take_succ_cons, List.map_cons, List.sum_cons] at this ⊢
      omega
theorem rdT {l : List S26} {i : Nat} (h : i < l.length) : rd_T26 l (i : Int) = l[i] := by simp [rd_T26, List.getD_eq_getElem?_getD, List.getElem?_eq_getElem h]
theorem mem_tot {M : List Tm} {t : Tm} (h : t ∈ M) : (txt t).size + 1 ≤ tot M := by
  induction M with
  | nil => cases h
  | cons u r ih =>
    unfold tot at ih ⊢
    rw [List.map_cons, List.sum_cons]
    rcases List.mem_cons.1 h with rfl | h
    · omega
    · have := ih h; omega
theorem txt_size (t : Tm) : (txt t).size = t.2.1.size + (opB t.1).size + (mk (esc t.2.2.data.toList)).size := by
  unfold txt opB
  rw [ByteArray.size_append, ByteArray.size_append]
set_option maxRecDepth 1000000 in
set_option maxHeartbeats 12800000 in
theorem fieldText_any (A : Option Addr) (c n : Nat) (M : List Tm) (TS : List S26) (w : World) (hTS : TS = M.map (fun t => ⟨t.2.1, opB t.1, t.2.2⟩)) (hn : n = TS.length) (hC : kT.C w A n TS) (hl : M.length ≤ 8589934592) (hsz : ∀ t ∈ M, t.2.2.size ≤ 2147483647) (ht : tot M ≤ 140737488355328) :
    Calls Tryz.prog 9 #[.slice A n c] w fun e w' => e = .returned (.string (joinT M)) ∧ Below w.heap.size w w' := by
  have mixed : Tryz.prog.follows .mixedOrders = true := by kernel_rfl
  have hu := Tryz.underlying26
  have hlen : n = M.length := by rw [hn, hTS, List.length_map]
  have HC := Aside0.mk hC
  have HLL := Aside0.mk hl
  have HSZ := Aside0.mk hsz
  have HTO := Aside0.mk ht
  have HGET : Aside0 (∀ (k : Nat) (h : k < M.length), rd_T26 TS (k : Int) = ⟨M[k].2.1, opB M[k].1, M[k].2.2⟩) := ⟨fun k h => by subst hTS; rw [rdT (by rw [List.length_map]; exact h), List.getElem_map]⟩
  have HX0 : Aside0 ((⟨#[]⟩ : ByteArray) = joinT (M.take 0)) := ⟨rfl⟩
  clear hC hl hsz ht hTS hn
  subst hlen
  go_enter Tryz.func9, Tryz.ntmps9
  go_wp2
  go_loopw [3, 4] (fun v i wr => ∃ (k : Nat) (x : ByteArray), k ≤ M.length ∧ i = .int .i64 (k : Int) ∧ v = .string x ∧ Aside0 (x = joinT (M.take k)) ∧ Aside0 (Below w.heap.size w wr)) (fun _ i _ => M.length - (intOf i).toNat)
  case atStart => exact ⟨0, _, Nat.zero_le _, rfl, rfl, HX0, ⟨Below.refl _ _⟩⟩
  case round =>
    clear HX0
    obtain ⟨k, x, hk, rfl, rfl, HX, HB⟩ := hrel
    by_cases hlt : k < M.length
    · have p : (0 ≤ (k : Int)) = True := eq_true (by omega)
      have q : ((k : Int) < (M.length : Int)) = True := eq_true (by omega)
      have w9 : wrap64 ((k : Int) + 1) = ((k + 1 : Nat) : Int) := Small.w64s k (by have := HLL.out; omega)
      have W9 := Aside0.mk w9
      obtain ⟨ad, rfl, x0, x1, x2⟩ := at_T26 HC.out (k : Int) (by omega) (by omega)
      simp only [Int.toNat_natCast] at x0 x1 x2
      replace x0 := (HB.out.cell (World.block_lt_of_cell? w _ x0)).trans x0
      replace x1 := (HB.out.cell (World.block_lt_of_cell? w _ x1)).trans x1
      replace x2 := (HB.out.cell (World.block_lt_of_cell? w _ x2)).trans x2
      rw [HGET.out k hlt] at x0 x1 x2
      have hts : M.take (k + 1) = M.take k ++ [M[k]] := List.take_succ_eq_append_getElem hlt
      have HM := Aside0.mk (show M.length - (((k + 1 : Nat) : Int)).toNat < M.length - ((k : Int)).toNat by omega)
      have HK := Aside0.mk (show k + 1 ≤ M.length from hlt)
      have hm := mem_tot (List.getElem_mem hlt)
      have hts1 := txt_size M[k]
      have hto := HTO.out
      have hx1 : x.size ≤ tot M := by rw [HX.out]; exact Nat.le_trans (joinT_le _) (tot_take _ _)
      have HE := Aside0.mk (HSZ.out _ (List.getElem_mem hlt))
      have HJ : Aside0 (joinT (M.take (k + 1)) = if k = 0 then txt M[k] else x ++ (⟨#[44]⟩ : ByteArray) ++ txt M[k]) := ⟨by
        rw [hts]
        by_cases h0 : k = 0
        · rw [if_pos h0]; subst h0; exact joinT_one _
        · rw [if_neg h0, HX.out]; exact joinT_snoc _ _ (by intro h; have h' := congrArg List.length h; rw [List.length_take, List.length_nil] at h'; omega)⟩
      generalize M[k] = t at x0 x1 x2 hm hts1 HE HJ
      obtain ⟨b, f, v⟩ := t
      have HTX : Aside0 (txt (b, f, v) = f ++ opB b ++ mk (esc v.data.toList)) := ⟨by unfold txt opB; rfl⟩
      replace x0 : wr.cell? (ad.add (k * 3)) = some (.string f) := x0
      replace x1 : wr.cell? ⟨(ad.add (k * 3)).block, (ad.add (k * 3)).off + 1, none⟩ = some (.string (opB b)) := x1
      replace x2 : wr.cell? ⟨(ad.add (k * 3)).block, (ad.add (k * 3)).off + 2, none⟩ = some (.string v) := x2
      have HEC : Aside0 (∀ w1, Calls Tryz.prog 21 #[.string v] w1 fun e w' => e = .returned (.string (mk (esc v.data.toList))) ∧ Below w1.heap.size w1 w') := ⟨fun w1 => by
        obtain ⟨K, hK⟩ := FdE.spec_f v HE.out
        exact spec_Escape.calls K v _ w1 (hK K (Nat.le_refl _))⟩
      replace hts1 : (txt (b, f, v)).size = f.size + (opB b).size + (mk (esc v.data.toList)).size := hts1
      generalize mk (esc v.data.toList) = y at HEC HTX hts1
      generalize opB b = o at x1 HTX hts1
      have s1 := ByteArray.size_append (a := f) (b := o)
      have s2 := ByteArray.size_append (a := f ++ o) (b := y)
      have s3 := ByteArray.size_append (a := x) (b := (⟨#[44]⟩ : ByteArray))
      have s4 : (⟨#[44]⟩ : ByteArray).size = 1 := rfl
      have a1 : (f.size + o.size ≤ 9223372036854775807) = True := eq_true (by omega)
      have a2 : (9223372036854775807 < f.size + o.size) = False := eq_false (by omega)
      have b1 : ((f ++ o).size + y.size ≤ 9223372036854775807) = True := eq_true (by omega)
      have b2 : (9223372036854775807 < (f ++ o).size + y.size) = False := eq_false (by omega)
      have c1 : (x.size + (f ++ o ++ y).size ≤ 9223372036854775807) = True := eq_true (by omega)
      have c2 : (9223372036854775807 < x.size + (f ++ o ++ y).size) = False := eq_false (by omega)
      have d1 : ((x ++ (⟨#[44]⟩ : ByteArray)).size + (f ++ o ++ y).size ≤ 9223372036854775807) = True := eq_true (by omega)
      have d2 : (9223372036854775807 < (x ++ (⟨#[44]⟩ : ByteArray)).size + (f ++ o ++ y).size) = False := eq_false (by omega)
      have b3 : (f.size + o.size + y.size ≤ 9223372036854775807) = True := eq_true (by omega)
      have b4 : (9223372036854775807 < f.size + o.size + y.size) = False := eq_false (by omega)
      have c3 : (x.size + (f.size + o.size + y.size) ≤ 9223372036854775807) = True := eq_true (by omega)
      have c4 : (9223372036854775807 < x.size + (f.size + o.size + y.size)) = False := eq_false (by omega)
      have d3 : (x.size + 1 + (f.size + o.size + y.size) ≤ 9223372036854775807) = True := eq_true (by omega)
      have d4 : (9223372036854775807 < x.size + 1 + (f.size + o.size + y.size)) = False := eq_false (by omega)
      have e1 : (x.size + 1 ≤ 9223372036854775807) = True := eq_true (by omega)
      have e2 : (9223372036854775807 < x.size + 1) = False := eq_false (by omega)
      have C0 : Aside0 (wr.cell? (ad.add (k * 3)) = some (.string f)) := ⟨x0⟩
      by_cases h0 : k = 0
      · have g1 : ((0 : Int) < (k : Int)) = False := eq_false (by omega)
        have g2 : decide ((0 : Int) < (k : Int)) = false := decide_eq_false (by omega)
        have g3 : (0 < k) = False := eq_false (by omega)
        have g4 : (k = 0) = True := eq_true h0
        have HJ2 : Aside0 (x ++ (f ++ o ++ y) = joinT (M.take (k + 1))) := ⟨by
          rw [HJ.out, if_pos h0, HTX.out, HX.out, h0]
          exact ext (by rw [data_append]; rfl)⟩
        clear hk hlt w9 hts hm hts1 hto hx1 HE HJ HTX s1 s2 s3 s4 HX h0 HSZ HGET
        go_wp2
        go_region_held3 (fun w' => w'.cell? (ad.add (k * 3)) = some (.string f) ∧ w'.cell? ⟨(ad.add (k * 3)).block, (ad.add (k * 3)).off + 1, none⟩ = some (.string o) ∧ w'.cell? ⟨(ad.add (k * 3)).block, (ad.add (k * 3)).off + 2, none⟩ = some (.string v)) (first | exact ⟨x0, x1, x2⟩)
          (first | (go_at_call 21; (with_reducible refine (HEC.out _).mono ?_); rintro e w1 ⟨rfl, hb⟩; have B1 := Aside0.mk (below_step (below_drew1 HB.out) hb); have x0 := (hb.cell (World.block_lt_of_cell? _ _ x0)).trans x0; have x1 := (hb.cell (World.block_lt_of_cell? _ _ x1)).trans x1; have x2 := (hb.cell (World.block_lt_of_cell? _ _ x2)).trans x2; clear hb))
        all_goals go_wp2
        all_goals go_roundw
        case measure => rw [W9.out]; exact HM.out
        case rel => exact ⟨k + 1, _, HK.out, by rw [W9.out], rfl, HJ2, B1⟩
      · have g1 : ((0 : Int) < (k : Int)) = True := eq_true (by omega)
        have g2 : decide ((0 : Int) < (k : Int)) = true := decide_eq_true (by omega)
        have g3 : (0 < k) = True := eq_true (by omega)
        have g4 : (k = 0) = False := eq_false h0
        have HJ2 : Aside0 (x ++ (⟨#[44]⟩ : ByteArray) ++ (f ++ o ++ y) = joinT (M.take (k + 1))) := ⟨by rw [HJ.out, if_neg h0, HTX.out]⟩
        clear hk hlt w9 hts hm hts1 hto hx1 HE HJ HTX s1 s2 s3 s4 HX h0 HSZ HGET
        go_wp2
        go_region_held3 (fun w' => w'.cell? (ad.add (k * 3)) = some (.string f) ∧ w'.cell? ⟨(ad.add (k * 3)).block, (ad.add (k * 3)).off + 1, none⟩ = some (.string o) ∧ w'.cell? ⟨(ad.add (k * 3)).block, (ad.add (k * 3)).off + 2, none⟩ = some (.string v)) (first | exact ⟨x0, x1, x2⟩)
          (first | (go_at_call 21; (with_reducible refine (HEC.out _).mono ?_); rintro e w1 ⟨rfl, hb⟩; have B1 := Aside0.mk (below_step (below_drew1 HB.out) hb); have x0 := (hb.cell (World.block_lt_of_cell? _ _ x0)).trans x0; have x1 := (hb.cell (World.block_lt_of_cell? _ _ x1)).trans x1; have x2 := (hb.cell (World.block_lt_of_cell? _ _ x2)).trans x2; clear hb))
        all_goals go_wp2
        all_goals go_roundw
        case measure => rw [W9.out]; exact HM.out
        case rel => exact ⟨k + 1, _, HK.out, by rw [W9.out], rfl, HJ2, B1⟩
    · have q : ((k : Int) < (M.length : Int)) = False := eq_false (by omega)
      have hke : k = M.length := by omega
      have HXE : Aside0 (x = joinT M) := ⟨by have := HX.out; rw [hke, List.take_length] at this; exact this⟩
      clear hke hk hlt
      go_wp2
      go_ret
      exact ⟨by rw [HXE.out]; rfl, HB.out⟩
/-- Two rows that are one. -/
theorem same_ev (l : List S26) (hl : l.length ≤ 8589934592) : Ev (fun k => spec_TermsSame.f k l l) true := by
  have step : ∀ n i : Nat, i + n = l.length → Ev (fun k => spec_TermsSame.l0 k l l (i : Int)) true := by
    intro n
    induction n with
    | zero => intro i hi; exact Evs.at1 fun k => by rw [spec_TermsSame.l0, if_neg (by omega)]
    | succ n ih =>
      intro i hi
      refine Ev.step (fun k => ?_) (ih (i + 1) (by omega))
      rw [spec_TermsSame.l0, if_pos (by omega), if_pos (by omega), if_pos (by omega), if_neg (by simp), Small.w64s i (by omega)]
  unfold spec_TermsSame.f
  exact Evs.yes rfl (step l.length 0 (by omega))
end Go.Proofs.YthejejeginnbdaaGreatDoor.Fd
