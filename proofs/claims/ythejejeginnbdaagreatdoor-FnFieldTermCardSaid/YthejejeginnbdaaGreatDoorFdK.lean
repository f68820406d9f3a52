/- Selectors of fields: those of many terms, turned by the function that changes nothing. -/
import Derived.Test.YthejejeginnbdaaGreatDoorFdJ
set_option linter.unusedVariables false
set_option linter.unusedSimpArgs false
namespace Go.Proofs.YthejejeginnbdaaGreatDoor.Fd
open Go Go.RowKit Go.Maps Go.Proofs.YthejejeginnbdaaGreatDoorW.PrintWords Go.Proofs.YthejejeginnbdaaGreatDoor.Txt Go.Proofs.YthejejeginnbdaaGreatDoor Go.Proofs.YthejejeginnbdaaGreatDoor.PFnFieldTerm Go.Proofs.YthejejeginnbdaaGreatDoor.EscN Go.Proofs.YthejejeginnbdaaGreatDoor.FdN Go.Proofs.YthejejeginnbdaaGreatDoor.FdC Go.Proofs.YthejejeginnbdaaGreatDoor.FdS Go.Proofs.YthejejeginnbdaaGreatDoor.FdU

theorem keep_snoc (L : List Tm) (t : Tm) : keep (L ++ [t]) = keep L ++ (if none_ t = true then [] else [t]) := by
  unfold keep
  rw [List.filter_append]
  cases h : none_ t with
  | true => rw [if_pos rfl]; simp [h]
  | false => rw [if_neg (by simp)]; simp [h]
theorem keep_len (L : List Tm) : (keep L).length ≤ L.length := List.length_filter_le ..
set_option maxRecDepth 1000000 in
set_option maxHeartbeats 12800000 in
theorem andTransform_any (A : Option Addr) (c : Nat) (xs : List (Bool × Nat)) (L : List Tm) (w : World) (hC : kI.C w A xs.length xs) (hT : Terms w xs L) (hl : L.length ≤ 8589934592) :
    Calls Tryz.prog 36 #[.slice A L.length c, .func (.func 31) #[] #[]] w fun e w' => (∃ A c ys, e = .returned (.tuple #[.iface 91 (.slice A (keep L).length c), .nilIface]) ∧ kI.C w' A ys.length ys ∧ Terms w' ys (keep L)) ∧ Below w.heap.size w w' := by
  have mixed : Tryz.prog.follows .mixedOrders = true := by kernel_rfl
  have HC := Aside0.mk hC
  have HT := Aside0.mk hT
  have HLL := Aside0.mk hl
  have hlen : xs.length = L.length := hT.len
  have HLEN := Aside0.mk hlen
  obtain ⟨cs0, hcs, hmk⟩ := make_items L.length hl
  have HR0 : Aside0 (Kd.R kI 47 (w.alloc (.cells cs0 47)) w.heap.size (fun _ => True) (.slice (some ⟨w.heap.size, 0, none⟩) 0 L.length) []) := ⟨by
    refine ⟨fun q hq => trivial, [], ⟨rfl, Or.inr ⟨w.heap.size, L.length, cs0, rfl, Nat.le_refl _, blk_new w _, Nat.zero_le _, by unfold maxLen; omega, by rw [hcs]; exact (Nat.mul_one _).symm, rfl⟩⟩, Reps.none _ _⟩⟩
  clear hC hT hl hlen hcs
  go_enter Tryz.func36, Tryz.ntmps36
  go_wp2
  clear hmk
  go_loopw [6, 16] (fun v i wr => ∃ (k : Nat) (ys : List (Bool × Nat)), k ≤ L.length ∧ i = .int .i64 (k : Int) ∧ Aside0 (Kd.R kI 47 wr w.heap.size (fun _ => True) v ys) ∧ Aside0 (Terms wr ys (keep (L.take k))) ∧ Aside0 (Below w.heap.size w wr)) (fun _ i _ => L.length - (intOf i).toNat)
  case atStart => exact ⟨0, [], Nat.zero_le _, rfl, HR0, ⟨trivial⟩, ⟨below_alloc (Below.refl _ _) _⟩⟩
  case round =>
    clear HR0
    obtain ⟨k, ys, hk, rfl, HY, HTY, HB⟩ := hrel
    by_cases hlt : k < L.length
    · have p : (0 ≤ (k : Int)) = True := eq_true (by omega)
      have q : ((k : Int) < (L.length : Int)) = True := eq_true (by omega)
      have w9 : wrap64 ((k : Int) + 1) = ((k + 1 : Nat) : Int) := Small.w64s k (by have := HLL.out; omega)
      have W9 := Aside0.mk w9
      obtain ⟨ad, rfl, hx⟩ := at_I (Kd.C_below HC.out HB.out) (k : Int) (by omega) (by have := HLEN.out; omega)
      rw [Int.toNat_natCast] at hx
      have ht := (HT.out.below HB.out).at k hlt
      have hkp : Aside0 (keep (L.take (k + 1)) = keep (L.take k) ++ (if none_ L[k] = true then [] else [L[k]])) := ⟨by rw [List.take_succ_eq_append_getElem hlt, keep_snoc]⟩
      have HM := Aside0.mk (show L.length - (((k + 1 : Nat) : Int)).toNat < L.length - ((k : Int)).toNat by omega)
      have HK := Aside0.mk (show k + 1 ≤ L.length from hlt)
      have HYL : Aside0 (ys.length ≤ 8589934592) := ⟨by rw [HTY.out.len]; have := keep_len (L.take k); rw [List.length_take] at this; have := HLL.out; omega⟩
      generalize rdOf (true, 0) xs (k : Int) = x at hx ht
      generalize L[k] = t at ht hkp
      obtain ⟨b, f, v⟩ := t
      obtain ⟨xb, g⟩ := x
      obtain ⟨hb0, hblk⟩ := ht
      have hb1 : xb = b := hb0
      subst hb1
      obtain ⟨Ao, co, eo⟩ := Kd.R_slice HY.out
      subst eo
      clear hk hlt w9
      cases xb with
      | true =>
        have hx' : wr.cell? (ad.add k) = some (.iface 74 (.pointer (some ⟨g, 0, none⟩))) := hx
        clear hx
        have HTR := Aside0.mk (transform_true g f v wr ⟨rfl, hblk⟩)
        have nat := na_Transform_true g
        have met := me_Transform_true g
        clear hblk hb0
        by_cases hn : none_ (true, f, v) = true
        · have HN := Aside0.mk hn
          rw [if_pos hn, List.append_nil] at hkp
          have naE := na_Empty_and
          have meE := me_Empty_and
          clear hn
          go_wp2_with (first
            | (go_at_call 112; (with_reducible refine (HTR.out).mono ?_); rintro e w1 ⟨ht, hb⟩; unfold ToldT at ht; rw [if_pos HN.out] at ht; obtain ⟨A1, c1, rfl⟩ := ht; have B1 := Aside0.mk (below_step HB.out hb); have Y1 := Aside0.mk (Kd.R_below HY.out hb); have T1 := Aside0.mk (HTY.out.below hb); clear hb)
            | (go_at_call 118; (with_reducible refine (emptyAnd_none _ _ _).mono ?_); rintro e w2 ⟨rfl, hb⟩; have B2 := Aside0.mk (below_step B1.out hb); have Y2 := Aside0.mk (Kd.R_below Y1.out hb); have T2 := Aside0.mk (T1.out.below hb); clear hb))
          go_roundw
          case measure => rw [W9.out]; exact HM.out
          case rel => exact ⟨k + 1, ys, HK.out, by rw [W9.out], Y2, ⟨by rw [hkp.out]; exact T2.out⟩, B2⟩
        · have HN := Aside0.mk hn
          rw [if_neg hn] at hkp
          have naE := na_Empty_true
          have meE := me_Empty_true
          clear hn
          go_wp2_with (first
            | (go_at_call 112; (with_reducible refine (HTR.out).mono ?_); rintro e w1 ⟨ht, hb⟩; unfold ToldT at ht; rw [if_neg HN.out] at ht; obtain ⟨g1, he, hta, hge⟩ := ht; replace he : e = .returned (.tuple #[.iface 74 (.pointer (some ⟨g1, 0, none⟩)), .nilIface]) := he; subst he; have B1 := Aside0.mk (below_step HB.out hb); have Y1 := Aside0.mk (Kd.R_below HY.out hb); have T1 := Aside0.mk (HTY.out.below hb); have TA := Aside0.mk hta; clear hb hta hge)
            | (go_at_call 107; (with_reducible refine (empty_true _ _).mono ?_); rintro e w2 ⟨rfl, rfl⟩)
            | ((with_reducible refine gate_builtin (b := .append) (xs := #[.tmp 32, .tmp 34]) rfl ?_); at_builtin; refine Kd.R_append kI (w0 := w) w.heap.size rfl (.tmp 32) (.tmp 34) 88 47 .nilIface 16 rfl Tryz.underlying88 infoI rfl (by decide) (by decide) (.slice Ao ys.length co) ys (true, g1) [.iface 74 (.pointer (some ⟨g1, 0, none⟩))] (fun _ => True) (fun _ => False) rfl rfl ?aP (fun _ hk => hk.elim) (fun _ _ => trivial) ?aO ?aB ?aS ?aL ?_; (case aP => exact rfl); (case aB => exact B1.out); (case aO => exact Y1.out); (case aS => exact below_size B1.out); (case aL => have := HYL.out; omega); intro v9 w9 ho hb hg hat; have YO := Aside0.mk ho; have BO := Aside0.mk hb; have TO := Aside0.mk (T1.out.grown Y1.out hg); have TAO : Aside0 (TermAt w9 (true, g1) (true, f, v)) := ⟨⟨rfl, blk_grown TA.out.2 hg (Kd.R_ne Y1.out TA.out.2 (celT_ne true))⟩⟩; clear ho hb hg hat))
          go_roundw
          case measure => rw [W9.out]; exact HM.out
          case rel => exact ⟨k + 1, _, HK.out, by rw [W9.out], YO, ⟨by rw [hkp.out]; exact Terms.snoc TAO.out TO.out⟩, BO⟩
      | false =>
        have hx' : wr.cell? (ad.add k) = some (.iface 71 (.pointer (some ⟨g, 0, none⟩))) := hx
        clear hx
        have HTR := Aside0.mk (transform_false g f v wr ⟨rfl, hblk⟩)
        have nat := na_Transform_false g
        have met := me_Transform_false g
        clear hblk hb0
        by_cases hn : none_ (false, f, v) = true
        · have HN := Aside0.mk hn
          rw [if_pos hn, List.append_nil] at hkp
          have naE := na_Empty_and
          have meE := me_Empty_and
          clear hn
          go_wp2_with (first
            | (go_at_call 103; (with_reducible refine (HTR.out).mono ?_); rintro e w1 ⟨ht, hb⟩; unfold ToldT at ht; rw [if_pos HN.out] at ht; obtain ⟨A1, c1, rfl⟩ := ht; have B1 := Aside0.mk (below_step HB.out hb); have Y1 := Aside0.mk (Kd.R_below HY.out hb); have T1 := Aside0.mk (HTY.out.below hb); clear hb)
            | (go_at_call 118; (with_reducible refine (emptyAnd_none _ _ _).mono ?_); rintro e w2 ⟨rfl, hb⟩; have B2 := Aside0.mk (below_step B1.out hb); have Y2 := Aside0.mk (Kd.R_below Y1.out hb); have T2 := Aside0.mk (T1.out.below hb); clear hb))
          go_roundw
          case measure => rw [W9.out]; exact HM.out
          case rel => exact ⟨k + 1, ys, HK.out, by rw [W9.out], Y2, ⟨by rw [hkp.out]; exact T2.out⟩, B2⟩
        · have HN := Aside0.mk hn
          rw [if_neg hn] at hkp
          have naE := na_Empty_false
          have meE := me_Empty_false
          clear hn
          go_wp2_with (first
            | (go_at_call 103; (with_reducible refine (HTR.out).mono ?_); rintro e w1 ⟨ht, hb⟩; unfold ToldT at ht; rw [if_neg HN.out] at ht; obtain ⟨g1, he, hta, hge⟩ := ht; replace he : e = .returned (.tuple #[.iface 71 (.pointer (some ⟨g1, 0, none⟩)), .nilIface]) := he; subst he; have B1 := Aside0.mk (below_step HB.out hb); have Y1 := Aside0.mk (Kd.R_below HY.out hb); have T1 := Aside0.mk (HTY.out.below hb); have TA := Aside0.mk hta; clear hb hta hge)
            | (go_at_call 98; (with_reducible refine (empty_false _ _).mono ?_); rintro e w2 ⟨rfl, rfl⟩)
            | ((with_reducible refine gate_builtin (b := .append) (xs := #[.tmp 32, .tmp 34]) rfl ?_); at_builtin; refine Kd.R_append kI (w0 := w) w.heap.size rfl (.tmp 32) (.tmp 34) 88 47 .nilIface 16 rfl Tryz.underlying88 infoI rfl (by decide) (by decide) (.slice Ao ys.length co) ys (false, g1) [.iface 71 (.pointer (some ⟨g1, 0, none⟩))] (fun _ => True) (fun _ => False) rfl rfl ?aP (fun _ hk => hk.elim) (fun _ _ => trivial) ?aO ?aB ?aS ?aL ?_; (case aP => exact rfl); (case aB => exact B1.out); (case aO => exact Y1.out); (case aS => exact below_size B1.out); (case aL => have := HYL.out; omega); intro v9 w9 ho hb hg hat; have YO := Aside0.mk ho; have BO := Aside0.mk hb; have TO := Aside0.mk (T1.out.grown Y1.out hg); have TAO : Aside0 (TermAt w9 (false, g1) (false, f, v)) := ⟨⟨rfl, blk_grown TA.out.2 hg (Kd.R_ne Y1.out TA.out.2 (celT_ne false))⟩⟩; clear ho hb hg hat))
          go_roundw
          case measure => rw [W9.out]; exact HM.out
          case rel => exact ⟨k + 1, _, HK.out, by rw [W9.out], YO, ⟨by rw [hkp.out]; exact Terms.snoc TAO.out TO.out⟩, BO⟩
    · have q : ((k : Int) < (L.length : Int)) = False := eq_false (by omega)
      have hke : k = L.length := by omega
      subst hke
      have HT9 := HTY.out
      rw [List.take_length] at HT9
      obtain ⟨A9, c9, e9, hl9, hC9⟩ := Kd.R_reads HY.out
      subst e9
      have HL9 := Aside0.mk HT9.len
      have HT8 := Aside0.mk HT9
      have HC9 := Aside0.mk hC9
      clear HT9 hC9 hl9 hk hlt
      go_wp2
      go_ret2
      exact ⟨⟨A9, c9, ys, by first | (rw [HL9.out]; done) | (rw [HL9.out]; rfl) | (rw [← HL9.out]; rfl), HC9.out, HT8.out⟩, HB.out⟩
end Go.Proofs.YthejejeginnbdaaGreatDoor.Fd
