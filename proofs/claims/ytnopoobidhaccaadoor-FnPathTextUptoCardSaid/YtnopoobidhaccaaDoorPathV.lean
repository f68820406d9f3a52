/- Paths: the thin package's call. -/
import Derived.Test.YtnopoobidhaccaaDoorPathX
import Derived.Test.YtnopoobidhaccaaDoorPFnPathTextx2
set_option linter.unusedVariables false
set_option linter.unusedSimpArgs false
namespace Go.Proofs.YtnopoobidhaccaaDoor.Path
open Go Go.Sort Go.RowKit Go.Proofs.YtnopoobidhaccaaDoorW.PrintWords Go.Proofs.YtnopoobidhaccaaDoor.PFnPathText

/-- What one step adds. -/
def stepN (x : S27) : Nm := if x.f0 = 0 then (x.f1, ⟨#[]⟩) else if x.f0 = 1 then (⟨#[]⟩, ⟨(Lib.itoa x.f2).toArray⟩) else (⟨#[]⟩, x.f1)
/-- The path of a first name, more names, and steps: its last record first. -/
def pathOf (first : ByteArray) (more : List ByteArray) (ls : List S27) : List Nm := (ls.map stepN).reverse ++ names first more
theorem pathOf_snoc (first : ByteArray) (more : List ByteArray) (ls : List S27) (x : S27) : pathOf first more (ls ++ [x]) = stepN x :: pathOf first more ls := by simp [pathOf]

set_option maxRecDepth 100000 in
set_option maxHeartbeats 4000000 in
theorem impl_calls (first : ByteArray) (A1 : Option Addr) (c1 : Nat) (more : List ByteArray) (A2 : Option Addr) (c2 : Nat) (ls : List S27) (w : World) (h1 : Kd.C Kd.string w A1 more.length more) (hc1 : more.length ≤ c1) (h2 : Kd.C k27 w A2 ls.length ls)
    (hwf : ∀ x ∈ ls, -9223372036854775808 ≤ x.f2 ∧ x.f2 ≤ 9223372036854775807) (hm1 : more.length ≤ 1073741) (hm2 : ls.length ≤ 1073741) (htxt : (ptext (pathOf first more ls)).length ≤ 70368744177664) (htab : Lib.TabIs Tryd.prog w "internal/strconv.uint64pow10" .u64 Lib.pow10Tab) :
    Calls Tryd.prog 7 #[.string first, .slice A1 more.length c1, .slice A2 ls.length c2] w fun e w' => e = .returned (.tuple #[.string ⟨(ptext (pathOf first more ls)).toArray⟩, .string ⟨(ptext [(first, ⟨#[]⟩)]).toArray⟩]) ∧ Below w.heap.size w w' := by
  have mixed : Tryd.prog.follows .mixedOrders = true := by kernel_rfl
  have hu1 := Tryd.underlying27
  have HT : Aside0 (∀ w', Below w.heap.size w w' → Lib.TabIs Tryd.prog w' "internal/strconv.uint64pow10" .u64 Lib.pow10Tab) := ⟨Lib.tabBelow_of_tabIs htab⟩
  have HX := Aside0.mk (impl_texts.calls A1 c1 more more w h1 hc1 (by unfold impl_texts.f; rw [Option.bind_some, if_pos (by simp; omega)]; rfl))
  have H2 := Aside0.mk h2
  have HW := Aside0.mk hwf
  clear h1 h2 htab hwf hc1
  go_enter Tryd.func7, Tryd.ntmps7
  go_wp2_with (first
    | (go_at_call 14; (with_reducible refine (HX.out).mono ?_); rintro e w1 ⟨v0, rfl, hR, hb⟩; have B1 := Aside0.mk hb; obtain ⟨A0, c0, rfl, hc0, hC⟩ := Kd.R_reads hR; have C1 := Aside0.mk hC; clear hR hb hC)
    | (go_at_call 13; (with_reducible refine (make_calls first _ _ more _ C1.out (by omega)).mono ?_); rintro e w2 ⟨p0, rfl, hp, hb⟩; have P0 := Aside0.mk hp; have B2 := Aside0.mk (below_step B1.out hb); clear hp hb))
  go_loopw [8, 17] (fun v i wr => ∃ (k : Nat) (p : Option Addr), k ≤ ls.length ∧ i = .int .i64 (k : Int) ∧ v = .pointer p ∧ Aside0 (IsPath wr p (pathOf first more (ls.take k))) ∧ Aside0 (Below w.heap.size w wr)) (fun _ i _ => ls.length - (intOf i).toNat)
  case atStart => exact ⟨0, p0, Nat.zero_le _, rfl, rfl, P0, B2⟩
  case round =>
    obtain ⟨k, p, hk, rfl, rfl, HP, HB⟩ := hrel
    by_cases hlt : k < ls.length
    · have q0 : ((k : Int) < (ls.length : Int)) = True := eq_true (by omega)
      obtain ⟨ad, rfl, x0, x1, x2⟩ := at_T27 H2.out (k : Int) (by omega) (by omega)
      simp only [Int.toNat_natCast] at x0 x1 x2
      replace x0 := (HB.out.cell (World.block_lt_of_cell? w _ x0)).trans x0
      replace x1 := (HB.out.cell (World.block_lt_of_cell? w _ x1)).trans x1
      replace x2 := (HB.out.cell (World.block_lt_of_cell? w _ x2)).trans x2
      have hxe : rd_T27 ls (k : Int) = ls[k] := by unfold rd_T27; rw [Int.toNat_natCast, List.getD_eq_getElem?_getD, List.getElem?_eq_getElem hlt]; rfl
      have hxm := HW.out ls[k] (List.getElem_mem hlt)
      rw [hxe] at x0 x1 x2
      obtain ⟨x, hxx⟩ : ∃ x, x = ls[k] := ⟨_, rfl⟩
      rw [← hxx] at x0 x1 x2 hxm
      clear hxe
      by_cases f0 : x.f0 = 0
      ·
        have t0 : (x.f0 == 0) = true := beq_iff_eq.2 f0
        have hst : stepN ls[k] = (x.f1, ⟨#[]⟩) := by rw [← hxx]; unfold stepN; rw [if_pos f0]
        clear hxx f0
        go_wp2_with (go_at_call 15; (with_reducible refine (child_calls p _ x.f1 _ (HP.out.below (below_alloc (Below.refl _ _) _))).mono ?_); rintro e w4 ⟨p4, rfl, hp, hb⟩; have P4 := Aside0.mk hp; have B4 := Aside0.mk (below_step (by repeat (first | (with_reducible exact HB.out) | apply below_alloc) : Below w.heap.size w _) hb); clear hp hb)
        go_roundw
        case rel => exact ⟨k + 1, p4, by omega, by go_num, rfl, ⟨by rw [List.take_succ_eq_append_getElem hlt, pathOf_snoc, hst]; exact P4.out⟩, B4⟩
        case measure => simp [intOf]; omega
      · by_cases f1 : x.f0 = 1
        ·
          have t0 : (x.f0 == 0) = false := beq_eq_false_iff_ne.2 f0
          have t1 : (x.f0 == 1) = true := beq_iff_eq.2 f1
          have hst : stepN ls[k] = (⟨#[]⟩, ⟨(Lib.itoa x.f2).toArray⟩) := by rw [← hxx]; unfold stepN; rw [if_neg f0, if_pos f1]
          have HI := Aside0.mk (fun w' h t => index_calls p (pathOf first more (ls.take k)) x.f2 hxm.1 hxm.2 w' h t)
          clear hxx f0 f1 hxm
          go_wp2_with (go_at_call 16; (with_reducible refine (HI.out _ (HP.out.below (below_alloc (Below.refl _ _) _)) (HT.out _ (below_alloc HB.out _))).mono ?_); rintro e w4 ⟨p4, rfl, hp, hb⟩; have P4 := Aside0.mk hp; have B4 := Aside0.mk (below_step (by repeat (first | (with_reducible exact HB.out) | apply below_alloc) : Below w.heap.size w _) hb); clear hp hb)
          go_roundw
          case rel => exact ⟨k + 1, p4, by omega, by go_num, rfl, ⟨by rw [List.take_succ_eq_append_getElem hlt, pathOf_snoc, hst]; exact P4.out⟩, B4⟩
          case measure => simp [intOf]; omega
        ·
          have t0 : (x.f0 == 0) = false := beq_eq_false_iff_ne.2 f0
          have t1 : (x.f0 == 1) = false := beq_eq_false_iff_ne.2 f1
          have hst : stepN ls[k] = (⟨#[]⟩, x.f1) := by rw [← hxx]; unfold stepN; rw [if_neg f0, if_neg f1]
          clear hxx f0 f1
          go_wp2_with (go_at_call 17; (with_reducible refine (key_calls p _ x.f1 _ (HP.out.below (below_alloc (Below.refl _ _) _))).mono ?_); rintro e w4 ⟨p4, rfl, hp, hb⟩; have P4 := Aside0.mk hp; have B4 := Aside0.mk (below_step (by repeat (first | (with_reducible exact HB.out) | apply below_alloc) : Below w.heap.size w _) hb); clear hp hb)
          go_roundw
          case rel => exact ⟨k + 1, p4, by omega, by go_num, rfl, ⟨by rw [List.take_succ_eq_append_getElem hlt, pathOf_snoc, hst]; exact P4.out⟩, B4⟩
          case measure => simp [intOf]; omega
    · have q0 : ((k : Int) < (ls.length : Int)) = False := eq_false (by omega)
      have hkl : k = ls.length := by omega
      subst hkl
      have HP' : Aside0 (IsPath _ p (pathOf first more ls)) := ⟨by have h := HP.out; rw [List.take_length] at h; exact h⟩
      have hsp : pathOf first more ls = ((ls.map stepN).reverse ++ (more.map fun s => (s, (⟨#[]⟩ : ByteArray))).reverse) ++ [(first, (⟨#[]⟩ : ByteArray))] := by unfold pathOf names; rw [List.append_assoc]
      have hL : (pathOf first more ls).length = ls.length + more.length + 1 := by rw [hsp]; simp; omega
      have ht1 : (ptext [(first, (⟨#[]⟩ : ByteArray))]).length ≤ 70368744177664 := by
        have h := ptext_drop (pathOf first more ls) ((pathOf first more ls).length - 1)
        rw [hsp] at h htxt
        have h2 : (((ls.map stepN).reverse ++ (more.map fun s => (s, (⟨#[]⟩ : ByteArray))).reverse) ++ [(first, (⟨#[]⟩ : ByteArray))]).drop ((((ls.map stepN).reverse ++ (more.map fun s => (s, (⟨#[]⟩ : ByteArray))).reverse) ++ [(first, (⟨#[]⟩ : ByteArray))]).length - 1) = [(first, (⟨#[]⟩ : ByteArray))] := by
          rw [List.length_append, List.length_singleton, Nat.add_sub_cancel, List.drop_left]
        rw [h2] at h
        omega
      have HS := Aside0.mk (str_calls p (pathOf first more ls) _ HP'.out (by omega) (by omega) htxt)
      have HR := Aside0.mk (fun w' (h : IsPath w' p (pathOf first more ls)) => root_calls p _ (first, ⟨#[]⟩) w' (hsp ▸ h))
      have HS1 := Aside0.mk (fun q w' (h : IsPath w' q [(first, (⟨#[]⟩ : ByteArray))]) => str_calls q _ w' h (by simp) (by simp) ht1)
      clear hsp hL ht1 htxt HP hk
      go_wp2_with (first
        | (go_at_call 18; (with_reducible refine (HS.out).mono ?_); rintro e w3 ⟨rfl, hb⟩; have B3 := Aside0.mk (below_step HB.out hb); have P3 := Aside0.mk (HP'.out.below hb); clear hb)
        | (go_at_call 19; (with_reducible refine (HR.out _ P3.out).mono ?_); rintro e w4 ⟨p4, rfl, hp, rfl⟩; have P4 := Aside0.mk hp; clear hp)
        | (go_at_call 18; (with_reducible refine (HS1.out _ _ P4.out).mono ?_); rintro e w5 ⟨rfl, hb⟩; have B5 := Aside0.mk (below_step B3.out hb); clear hb))
      go_ret2
      exact ⟨rfl, B5.out⟩
end Go.Proofs.YtnopoobidhaccaaDoor.Path
