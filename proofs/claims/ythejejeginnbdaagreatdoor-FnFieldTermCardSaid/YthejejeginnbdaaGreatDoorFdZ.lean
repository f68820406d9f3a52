/- What a selector tells: its requirements, its text; impl.FieldParse. -/
import Derived.Test.YthejejeginnbdaaGreatDoorFdY
import Derived.Test.YthejejeginnbdaaGreatDoorFdA
set_option linter.unusedVariables false
set_option linter.unusedSimpArgs false
namespace Go.Proofs.YthejejeginnbdaaGreatDoor.Fd
open Go Go.RowKit Go.Maps Go.Proofs.YthejejeginnbdaaGreatDoorW.PrintWords Go.Proofs.YthejejeginnbdaaGreatDoor.Txt Go.Proofs.YthejejeginnbdaaGreatDoor Go.Proofs.YthejejeginnbdaaGreatDoor.PFnFieldTerm Go.Proofs.YthejejeginnbdaaGreatDoor.EscN Go.Proofs.YthejejeginnbdaaGreatDoor.FdN Go.Proofs.YthejejeginnbdaaGreatDoor.FdC Go.Proofs.YthejejeginnbdaaGreatDoor.FdS Go.Proofs.YthejejeginnbdaaGreatDoor.FdU

theorem make_reqs (n : Nat) (hn : n ≤ 8589934592) : ∃ cs0 : Array Value, cs0.size = n * 3 ∧ ∀ W, Sem.run Tryz.prog (Instr.makeSlice 76 (.int .i64 0) (.int .i64 (n : Int))) W = .ok (.slice (some ⟨W.heap.size, 0, none⟩) 0 n) (W.alloc (.cells cs0 81)) := by
  obtain ⟨i0, hi, hz0, hz1, hz2⟩ := info_parts infoQ
  refine ⟨madeCells (Value.agg #[(.string ⟨#[]⟩), (.string ⟨#[]⟩), (.string ⟨#[]⟩)]).cells (n * i0.size), ?_, fun W => ?_⟩
  rotate_left
  · have := run_make (P := Tryz.prog) W 76 81 i0 _ Tryz.underlying76 hi hz0 .i64 .i64 (0 : Int) (n : Int) (by omega) (by omega) (by rw [hz2]; omega) (by omega)
    simp only [Int.toNat_natCast] at this
    exact this
  · rw [size_madeCells, hz1]
theorem m_of_k (W : World) (base : Nat) (ok : Nat → Prop) (x : S26) (cs : List Value) (h : kT.K W x cs) : kT.M W base ok x cs := by
  obtain rfl := k26_open h
  exact k26_mkM _ _ _ x
set_option maxRecDepth 1000000 in
set_option maxHeartbeats 12800000 in
theorem andReq_any (A : Option Addr) (c : Nat) (xs : List (Bool × Nat)) (L : List Tm) (w : World) (hC : kI.C w A xs.length xs) (hT : Terms w xs L) (hl : L.length ≤ 8589934592) :
    Calls Tryz.prog 120 #[.slice A L.length c] w fun e w' => ToldQ w w' e (L.map rqS) := by
  have mixed : Tryz.prog.follows .mixedOrders = true := by kernel_rfl
  have HC := Aside0.mk hC
  have HT := Aside0.mk hT
  have HLL := Aside0.mk hl
  have hlen : xs.length = L.length := hT.len
  have HLEN := Aside0.mk hlen
  obtain ⟨cs0, hcs, hmk⟩ := make_reqs L.length hl
  have HR0 : Aside0 (Kd.R kT 81 (w.alloc (.cells cs0 81)) w.heap.size (fun _ => True) (.slice (some ⟨w.heap.size, 0, none⟩) 0 L.length) []) := ⟨by
    refine ⟨fun q hq => trivial, [], ⟨rfl, Or.inr ⟨w.heap.size, L.length, cs0, rfl, Nat.le_refl _, blk_new w _, Nat.zero_le _, by unfold maxLen; omega, by rw [hcs]; rfl, rfl⟩⟩, Reps.none _ _⟩⟩
  clear hC hT hl hlen hcs
  go_enter Tryz.func120, Tryz.ntmps120
  go_wp2
  clear hmk
  go_loopw [3, 12] (fun v i wr => ∃ (k : Nat), k ≤ L.length ∧ i = .int .i64 (k : Int) ∧ Aside0 (Kd.R kT 81 wr w.heap.size (fun _ => True) v ((L.take k).map rqS)) ∧ Aside0 (Below w.heap.size w wr)) (fun _ i _ => L.length - (intOf i).toNat)
  case atStart => exact ⟨0, Nat.zero_le _, rfl, HR0, ⟨below_alloc (Below.refl _ _) _⟩⟩
  case round =>
    clear HR0
    obtain ⟨k, hk, rfl, HY, HB⟩ := hrel
    by_cases hlt : k < L.length
    · have p : (0 ≤ (k : Int)) = True := eq_true (by omega)
      have q : ((k : Int) < (L.length : Int)) = True := eq_true (by omega)
      have w9 : wrap64 ((k : Int) + 1) = ((k + 1 : Nat) : Int) := Small.w64s k (by have := HLL.out; omega)
      have W9 := Aside0.mk w9
      obtain ⟨ad, rfl, hx⟩ := at_I (Kd.C_below HC.out HB.out) (k : Int) (by omega) (by have := HLEN.out; omega)
      rw [Int.toNat_natCast] at hx
      have ht := (HT.out.below HB.out).at k hlt
      have hkp : Aside0 ((L.take (k + 1)).map rqS = (L.take k).map rqS ++ [rqS L[k]]) := ⟨by rw [List.take_succ_eq_append_getElem hlt, List.map_append]; rfl⟩
      have HM := Aside0.mk (show L.length - (((k + 1 : Nat) : Int)).toNat < L.length - ((k : Int)).toNat by omega)
      have HK := Aside0.mk (show k + 1 ≤ L.length from hlt)
      have HYL : Aside0 (((L.take k).map rqS).length ≤ 8589934592) := ⟨by rw [List.length_map, List.length_take]; have := HLL.out; omega⟩
      generalize rdOf (true, 0) xs (k : Int) = x at hx ht
      generalize L[k] = t at ht hkp
      generalize (L.take k).map rqS = ys at HY hkp HYL
      obtain ⟨b, f, v⟩ := t
      obtain ⟨xb, g⟩ := x
      obtain ⟨hb0, hblk⟩ := ht
      have hb1 : xb = b := hb0
      subst hb1
      obtain ⟨Ao, co, eo⟩ := Kd.R_slice HY.out
      subst eo
      clear hk hlt w9
      cases xb with
      | true =>
        have hx' : wr.cell? (ad.add k) = some (.iface 74 (.pointer (some ⟨g, 0, none⟩))) := hx
        clear hx
        have HRQ := Aside0.mk (req_true g f v wr ⟨rfl, hblk⟩)
        have nat := na_Requirements_true g
        have met := me_Requirements_true g
        clear hblk hb0
        go_wp2_with (first
          | (go_at_call 109; (with_reducible refine (HRQ.out).mono ?_); rintro e w1 ⟨⟨A1, c1, he, hc1, hl1⟩, hb⟩; replace he : e = .returned (.slice A1 1 c1) := he; subst he; have C1 := Aside0.mk hc1; have B1 := Aside0.mk (below_step HB.out hb); have Y1 := Aside0.mk (Kd.R_below HY.out hb); clear hb hc1 hl1)
          | ((with_reducible refine gate_builtin (b := .append) (xs := #[.tmp 18, .tmp 19]) rfl ?_); at_builtin; refine Kd.R_append_rows2 kT (w0 := w) w.heap.size rfl (.tmp 18) (.tmp 19) 76 77 81 (.agg #[(.string ⟨#[]⟩), (.string ⟨#[]⟩), (.string ⟨#[]⟩)]) 48 rfl Tryz.underlying76 Tryz.underlying77 infoQ rfl (by decide) (by decide) (.slice Ao ys.length co) ys [rqS (true, f, v)] A1 1 c1 (fun _ => True) (fun _ => False) rfl rfl ?aO ?aR (fun x cs h => m_of_k _ _ _ x cs h) (fun _ h => h.elim) (fun _ _ => trivial) ?aB ?aS ?aL ?_; (case aO => exact Y1.out); (case aR => exact C1.out); (case aB => exact B1.out); (case aS => exact below_size B1.out); (case aL => have := HYL.out; omega); intro v9 w9 ho hb hg hat; have YO := Aside0.mk ho; have BO := Aside0.mk hb; clear ho hb hg hat))
        go_roundw
        case measure => rw [W9.out]; exact HM.out
        case rel => exact ⟨k + 1, HK.out, by rw [W9.out], ⟨by rw [hkp.out]; exact YO.out⟩, BO⟩
      | false =>
        have hx' : wr.cell? (ad.add k) = some (.iface 71 (.pointer (some ⟨g, 0, none⟩))) := hx
        clear hx
        have HRQ := Aside0.mk (req_false g f v wr ⟨rfl, hblk⟩)
        have nat := na_Requirements_false g
        have met := me_Requirements_false g
        clear hblk hb0
        go_wp2_with (first
          | (go_at_call 100; (with_reducible refine (HRQ.out).mono ?_); rintro e w1 ⟨⟨A1, c1, he, hc1, hl1⟩, hb⟩; replace he : e = .returned (.slice A1 1 c1) := he; subst he; have C1 := Aside0.mk hc1; have B1 := Aside0.mk (below_step HB.out hb); have Y1 := Aside0.mk (Kd.R_below HY.out hb); clear hb hc1 hl1)
          | ((with_reducible refine gate_builtin (b := .append) (xs := #[.tmp 18, .tmp 19]) rfl ?_); at_builtin; refine Kd.R_append_rows2 kT (w0 := w) w.heap.size rfl (.tmp 18) (.tmp 19) 76 77 81 (.agg #[(.string ⟨#[]⟩), (.string ⟨#[]⟩), (.string ⟨#[]⟩)]) 48 rfl Tryz.underlying76 Tryz.underlying77 infoQ rfl (by decide) (by decide) (.slice Ao ys.length co) ys [rqS (false, f, v)] A1 1 c1 (fun _ => True) (fun _ => False) rfl rfl ?aO ?aR (fun x cs h => m_of_k _ _ _ x cs h) (fun _ h => h.elim) (fun _ _ => trivial) ?aB ?aS ?aL ?_; (case aO => exact Y1.out); (case aR => exact C1.out); (case aB => exact B1.out); (case aS => exact below_size B1.out); (case aL => have := HYL.out; omega); intro v9 w9 ho hb hg hat; have YO := Aside0.mk ho; have BO := Aside0.mk hb; clear ho hb hg hat))
        go_roundw
        case measure => rw [W9.out]; exact HM.out
        case rel => exact ⟨k + 1, HK.out, by rw [W9.out], ⟨by rw [hkp.out]; exact YO.out⟩, BO⟩
    · have q : ((k : Int) < (L.length : Int)) = False := eq_false (by omega)
      have hke : k = L.length := by omega
      subst hke
      have HY9 := HY.out
      rw [List.take_length] at HY9
      obtain ⟨A9, c9, e9, hl9, hC9⟩ := Kd.R_reads HY9
      subst e9
      have HC9 := Aside0.mk hC9
      have HL9 := Aside0.mk hl9
      clear HY9 hC9 hl9 hk hlt
      go_wp2
      go_ret
      exact ⟨⟨A9, c9, rfl, HC9.out, HL9.out⟩, HB.out⟩
/-- Terms as they are written. -/
def joinT (L : List Tm) : ByteArray := ⟨(Lib.join ((L.map txt).map (·.data.toList)) [44]).toArray⟩
theorem joinT_one (t : Tm) : joinT [t] = txt t := by
  unfold joinT
  apply ext
  rw [data_mk]
  simp [Lib.join]
theorem join_any (xs : List ByteArray) (base : Nat) (v : Value) (w : World) (hR : Kd.R Kd.string 9 w base (fun _ => True) v xs) (hn : xs.length ≤ 8589934592) (hs : (Lib.join (xs.map (·.data.toList)) [44]).length ≤ 140737488355328) :
    Calls Tryz.prog 89 #[v, .string ⟨#[44]⟩] w fun e w' => e = .returned (.string ⟨(Lib.join (xs.map (·.data.toList)) [44]).toArray⟩) ∧ Below w.heap.size w w' := by
  obtain ⟨A, c, rfl, hl, hC⟩ := Kd.R_reads hR
  obtain ⟨-, inner, hown, -⟩ := hR
  by_cases h0 : xs = []
  · subst h0
    refine (Tryz.strings_Join_none A c _ w).mono ?_
    rintro e w' ⟨rfl, rfl⟩
    exact ⟨rfl, Below.refl _ _⟩
  · have hpos : 0 < xs.length := List.length_pos_iff.2 h0
    rcases hown.2 with ⟨he, hn0⟩ | ⟨g, cap, cur, he, _, hb, _⟩
    · exact absurd hn0 (by omega)
    · injection he with hA _ hc
      subst hA
      subst hc
      have hg : g < w.heap.size := blk_lt hb
      refine (Tryz.strings_Join g 0 c xs (⟨#[44]⟩ : ByteArray) w (fun j x hj => ?_) hg (by omega) hl hs).mono fun e w' h => h
      have hjl : j < xs.length := (List.getElem?_eq_some_iff.1 hj).1
      obtain ⟨ad, ha, hx⟩ := ReadsOf.at_ (Kd.reads_of_C (enc := Value.string) (d := ByteArray.empty) hC) (j : Int) (by omega) (by omega)
      injection ha with ha
      subst ha
      rw [Int.toNat_natCast] at hx
      have : rdOf ByteArray.empty xs (j : Int) = x := by unfold rdOf; rw [Int.toNat_natCast, List.getD_eq_getElem?_getD, hj]; rfl
      rw [this] at hx
      have ha9 : (⟨g, 0, none⟩ : Addr).add j = ⟨g, 0 + j, none⟩ := by
        cases j with
        | zero => first | rfl | simp [Addr.add]
        | succ j => first | rfl | simp [Addr.add]
      rw [ha9] at hx
      exact hx
set_option maxRecDepth 1000000 in
set_option maxHeartbeats 12800000 in
theorem andText_any (A : Option Addr) (c : Nat) (xs : List (Bool × Nat)) (L : List Tm) (w : World) (hC : kI.C w A xs.length xs) (hT : Terms w xs L) (hl : L.length ≤ 8589934592) (hsz : ∀ t ∈ L, t.2.1.size ≤ 2147483647 ∧ t.2.2.size ≤ 2147483647) (hj : (joinT L).size ≤ 140737488355328) :
    Calls Tryz.prog 122 #[.slice A L.length c] w fun e w' => e = .returned (.string (joinT L)) ∧ Below w.heap.size w w' := by
  have mixed : Tryz.prog.follows .mixedOrders = true := by kernel_rfl
  have HC := Aside0.mk hC
  have HT := Aside0.mk hT
  have HLL := Aside0.mk hl
  have HSZ := Aside0.mk hsz
  have HJ := Aside0.mk hj
  have hlen : xs.length = L.length := hT.len
  have HLEN := Aside0.mk hlen
  clear hC hT hl hlen hsz hj
  go_enter Tryz.func122, Tryz.ntmps122
  go_wp2
  go_loopw [3, 8] (fun v i wr => ∃ (k : Nat), k ≤ L.length ∧ i = .int .i64 (k : Int) ∧ Aside0 (Kd.R Kd.string 9 wr w.heap.size (fun _ => True) v ((L.take k).map txt)) ∧ Aside0 (Below w.heap.size w wr)) (fun _ i _ => L.length - (intOf i).toNat)
  case atStart => exact ⟨0, Nat.zero_le _, rfl, ⟨Kd.R_nil _ _ _ _ _⟩, ⟨Below.refl _ _⟩⟩
  case round =>
    obtain ⟨k, hk, rfl, HY, HB⟩ := hrel
    by_cases hlt : k < L.length
    · have p : (0 ≤ (k : Int)) = True := eq_true (by omega)
      have q : ((k : Int) < (L.length : Int)) = True := eq_true (by omega)
      have w9 : wrap64 ((k : Int) + 1) = ((k + 1 : Nat) : Int) := Small.w64s k (by have := HLL.out; omega)
      have W9 := Aside0.mk w9
      obtain ⟨ad, rfl, hx⟩ := at_I (Kd.C_below HC.out HB.out) (k : Int) (by omega) (by have := HLEN.out; omega)
      rw [Int.toNat_natCast] at hx
      have ht := (HT.out.below HB.out).at k hlt
      have hkp : Aside0 ((L.take (k + 1)).map txt = (L.take k).map txt ++ [txt L[k]]) := ⟨by rw [List.take_succ_eq_append_getElem hlt, List.map_append]; rfl⟩
      have HM := Aside0.mk (show L.length - (((k + 1 : Nat) : Int)).toNat < L.length - ((k : Int)).toNat by omega)
      have HK := Aside0.mk (show k + 1 ≤ L.length from hlt)
      have HYL : Aside0 (((L.take k).map txt).length ≤ 8589934592) := ⟨by rw [List.length_map, List.length_take]; have := HLL.out; omega⟩
      have hst := HSZ.out _ (List.getElem_mem hlt)
      generalize rdOf (true, 0) xs (k : Int) = x at hx ht
      generalize L[k] = t at ht hkp hst
      generalize (L.take k).map txt = ys at HY hkp HYL
      obtain ⟨b, f, v⟩ := t
      obtain ⟨xb, g⟩ := x
      obtain ⟨hb0, hblk⟩ := ht
      have hb1 : xb = b := hb0
      subst hb1
      obtain ⟨Ao, co, eo⟩ := Kd.R_slice HY.out
      subst eo
      clear hk hlt w9
      cases xb with
      | true =>
        have hx' : wr.cell? (ad.add k) = some (.iface 74 (.pointer (some ⟨g, 0, none⟩))) := hx
        clear hx
        have HTX := Aside0.mk (text_true g f v wr ⟨rfl, hblk⟩ hst.1 hst.2)
        have nat := na_String_true g
        have met := me_String_true g
        generalize txt (true, f, v) = tx at HTX hkp
        clear hblk hb0 hst
        go_wp2_with (first
          | (go_at_call 111; (with_reducible refine (HTX.out).mono ?_); rintro e w1 ⟨rfl, hb⟩; have B1 := Aside0.mk (below_step HB.out hb); have Y1 := Aside0.mk (Kd.R_below HY.out hb); clear hb)
          | ((with_reducible refine gate_builtin (b := .append) (xs := #[.tmp 12, .tmp 15]) rfl ?_); at_builtin; refine Kd.R_append Kd.string (w0 := w) w.heap.size rfl (.tmp 12) (.tmp 15) 63 9 (.string ⟨#[]⟩) 16 rfl Tryz.underlying63 infoS rfl (by decide) (by decide) (.slice Ao ys.length co) ys tx [.string tx] (fun _ => True) (fun _ => False) rfl rfl ?aP (fun _ hk => hk.elim) (fun _ _ => trivial) ?aO ?aB ?aS ?aL ?_; (case aP => exact rfl); (case aB => exact B1.out); (case aO => exact Y1.out); (case aS => exact below_size B1.out); (case aL => have := HYL.out; omega); intro v9 w9 ho hb hg hat; have YO := Aside0.mk ho; have BO := Aside0.mk hb; clear ho hb hg hat))
        go_roundw
        case measure => rw [W9.out]; exact HM.out
        case rel => exact ⟨k + 1, HK.out, by rw [W9.out], ⟨by rw [hkp.out]; exact YO.out⟩, BO⟩
      | false =>
        have hx' : wr.cell? (ad.add k) = some (.iface 71 (.pointer (some ⟨g, 0, none⟩))) := hx
        clear hx
        have HTX := Aside0.mk (text_false g f v wr ⟨rfl, hblk⟩ hst.1 hst.2)
        have nat := na_String_false g
        have met := me_String_false g
        generalize txt (false, f, v) = tx at HTX hkp
        clear hblk hb0 hst
        go_wp2_with (first
          | (go_at_call 102; (with_reducible refine (HTX.out).mono ?_); rintro e w1 ⟨rfl, hb⟩; have B1 := Aside0.mk (below_step HB.out hb); have Y1 := Aside0.mk (Kd.R_below HY.out hb); clear hb)
          | ((with_reducible refine gate_builtin (b := .append) (xs := #[.tmp 12, .tmp 15]) rfl ?_); at_builtin; refine Kd.R_append Kd.string (w0 := w) w.heap.size rfl (.tmp 12) (.tmp 15) 63 9 (.string ⟨#[]⟩) 16 rfl Tryz.underlying63 infoS rfl (by decide) (by decide) (.slice Ao ys.length co) ys tx [.string tx] (fun _ => True) (fun _ => False) rfl rfl ?aP (fun _ hk => hk.elim) (fun _ _ => trivial) ?aO ?aB ?aS ?aL ?_; (case aP => exact rfl); (case aB => exact B1.out); (case aO => exact Y1.out); (case aS => exact below_size B1.out); (case aL => have := HYL.out; omega); intro v9 w9 ho hb hg hat; have YO := Aside0.mk ho; have BO := Aside0.mk hb; clear ho hb hg hat))
        go_roundw
        case measure => rw [W9.out]; exact HM.out
        case rel => exact ⟨k + 1, HK.out, by rw [W9.out], ⟨by rw [hkp.out]; exact YO.out⟩, BO⟩
    · have q : ((k : Int) < (L.length : Int)) = False := eq_false (by omega)
      have hke : k = L.length := by omega
      subst hke
      have HY9 := HY.out
      rw [List.take_length] at HY9
      have HJO := Aside0.mk (join_any (L.map txt) _ _ wr HY9 (by rw [List.length_map]; exact HLL.out) (by have := HJ.out; unfold joinT at this; rw [size_len, data_mk] at this; exact this))
      clear HY9 hk hlt
      go_wp2_with (first | (go_at_call 89; (with_reducible refine (HJO.out).mono ?_); rintro e w5 ⟨rfl, hb⟩; have B5 := Aside0.mk (below_step HB.out hb); clear hb))
      go_ret
      exact ⟨by first | rfl | (unfold joinT; rw [List.map_map]; rfl), B5.out⟩
end Go.Proofs.YthejejeginnbdaaGreatDoor.Fd
