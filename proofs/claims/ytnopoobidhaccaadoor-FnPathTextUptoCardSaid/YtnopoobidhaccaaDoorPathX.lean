/- Paths: written. -/
import Derived.Test.YtnopoobidhaccaaDoorPathW
import Derived.Lib.BufferOld
set_option linter.unusedVariables false
set_option linter.unusedSimpArgs false
namespace Go.Proofs.YtnopoobidhaccaaDoor.Path
open Go Go.Sort Go.RowKit Go.Proofs.YtnopoobidhaccaaDoorW.PrintWords

/-- One record's text. -/
def piece (x : Nm) (root : Bool) : List UInt8 := if x.1.size = 0 then 91 :: (x.2.data.toList ++ [93]) else if root then x.1.data.toList else 46 :: x.1.data.toList
/-- A path's text (its last record stands first). -/
def ptext : List Nm → List UInt8
  | [] => []
  | x :: r => ptext r ++ piece x r.isEmpty
set_option maxRecDepth 100000 in
theorem nb_calls (w : World) : Calls Tryd.prog 25 #[.slice none 0 0] w fun e w' => e = .returned (.pointer (some ⟨w.heap.size, 0, none⟩)) ∧ w' = w.alloc (.cells #[.slice none 0 0, .int .i64 0, .int .i8 0] 68) := by
  have hu1 := Tryd.underlying68
  go_enter Tryd.func25, Tryd.ntmps25
  go_wp2
  go_ret
  exact ⟨rfl, rfl⟩
theorem cells_add (l k : List UInt8) : Lib.byteCells l ++ Lib.byteCells k = Lib.byteCells (l ++ k) := by simp [Lib.byteCells]
theorem data_add (s t : ByteArray) : (s ++ t).data.toList = s.data.toList ++ t.data.toList := by rw [ByteArray.data_append, Array.toList_append]
theorem size_toList (s : ByteArray) : s.size = s.data.toList.length := by rw [Array.length_toList]; rfl
theorem ptext_drop (L : List Nm) : ∀ j, (ptext (L.drop j)).length ≤ (ptext L).length := by
  induction L with
  | nil => intro j; simp
  | cons x r ih =>
    intro j
    cases j with
    | zero => exact Nat.le_refl _
    | succ j =>
      rw [List.drop_succ_cons, ptext, List.length_append]
      have := ih j
      omega
/-- The records' addresses. -/
def Ads (w : World) (ps : List (Option Addr)) (L : List Nm) : Prop := ∀ j q, ps[j]? = some q → IsPath w q (L.drop j)

set_option maxRecDepth 100000 in
set_option maxHeartbeats 4000000 in
theorem str_calls (p : Option Addr) (L : List Nm) (w : World) (h : IsPath w p L) (h0 : 0 < L.length) (hmax : L.length ≤ 1073741824) (htxt : (ptext L).length ≤ 70368744177664) :
    Calls Tryd.prog 18 #[.pointer p] w fun e w' => e = .returned (.string ⟨(ptext L).toArray⟩) ∧ Below w.heap.size w w' := by
  have hu1 := Tryd.underlying55
  have hu2 := Tryd.underlying68
  have HP0 := Aside0.mk h
  obtain ⟨a, rfl⟩ : ∃ a, p = some a := by
    cases L with
    | nil => simp at h0
    | cons x r => obtain ⟨g, _, rfl, _⟩ := h; exact ⟨_, rfl⟩
  clear h
  go_enter Tryd.func18, Tryd.ntmps18
  go_wp2
  go_loopg [0, 3] (L.length + 1) (fun m pv ev wr => ∃ (p' : Option Addr) (ps : List (Option Addr)), pv = .pointer p' ∧ ps.length ≤ L.length ∧ L.length - ps.length < m ∧ Aside0 (IsPath w p' (L.drop ps.length)) ∧ Aside0 (Ads w ps L) ∧ Aside0 (wr.ownsRow w.heap.size 38 1 ev ps.length (ps.map Value.pointer)) ∧ Aside0 (Below w.heap.size w wr))
  case atStart =>
    refine ⟨some a, [], rfl, Nat.zero_le _, by omega, HP0, ⟨fun j q hj => by simp at hj⟩, ⟨?_⟩, ⟨below_alloc (Below.refl _ _) _⟩⟩
    exact ⟨rfl, .inr ⟨w.heap.size, 0, #[], rfl, Nat.le_refl _, blk_new w _, Nat.le_refl _, Nat.zero_le _, rfl, rfl⟩⟩
  case round =>
    obtain ⟨p', ps, rfl, hps, hm, HP, HA, HO, HB⟩ := hrel
    obtain ⟨m, rfl⟩ : ∃ j, gk = j + 1 := ⟨gk - 1, by omega⟩
    by_cases hlt : ps.length < L.length
    · obtain ⟨x, r, hx⟩ : ∃ x r, L.drop ps.length = x :: r := ⟨_, _, List.drop_eq_getElem_cons hlt⟩
      have hr : r = L.drop (ps.length + 1) := by rw [List.drop_eq_getElem_cons hlt] at hx; injection hx with _ h; exact h.symm
      have hP := HP.out
      rw [hx] at hP
      obtain ⟨g, p2, rfl, hg, h3⟩ := hP
      have H3 := Aside0.mk h3
      have HG := Aside0.mk hg
      clear h3 hg
      go_wp2_with (at_builtin; refine print_append_cells w.heap.size rfl (.tmp 16) (.tmp 18) 56 38 (.pointer none) 1 8 rfl Tryd.underlying56 (by kernel_rfl) rfl (by decide) (by decide) _ ps.length (ps.map Value.pointer) [.pointer (some ⟨g, 0, none⟩)] rfl rfl rfl (by simp; rfl) HO.out HB.out HB.out.size (by omega) ?grow)
      case grow =>
        intro v1 w1 hown hb1 _ _
        have HO1 := Aside0.mk hown
        have HB1 := Aside0.mk hb1
        have HG1 := Aside0.mk (blk_below HG.out hb1)
        have c2 : w1.cell? ⟨g, 2, none⟩ = some (.pointer p2) := blk_cell HG1.out 2
        have HA1 : Aside0 (Ads w (ps ++ [some ⟨g, 0, none⟩]) L) := ⟨fun j q hj => by
          by_cases hjl : j < ps.length
          · rw [List.getElem?_append_left hjl] at hj
            exact HA.out j q hj
          · rw [List.getElem?_append_right (by omega)] at hj
            have hj0 : j = ps.length := by
              have := (List.getElem?_eq_some_iff.1 hj).1
              simp at this; omega
            subst hj0
            simp at hj
            subst hj
            exact HP.out⟩
        clear hown hb1
        go_wp2
        go_roundg m
        case rel => exact ⟨p2, ps ++ [some ⟨g, 0, none⟩], rfl, by simp; omega, by simp; omega, ⟨by rw [List.length_append, List.length_singleton, ← hr]; exact H3.out⟩, HA1, ⟨by rw [List.length_append, List.length_singleton, List.map_append]; exact HO1.out⟩, HB1⟩
        case measure => omega
    · have hpl : ps.length = L.length := by omega
      have hP := HP.out
      rw [List.drop_eq_nil_of_le (by omega)] at hP
      obtain rfl : p' = none := hP
      have hO := HO.out
      obtain ⟨_, ⟨_, hz⟩ | ⟨e, cap, cur, rfl, hbe, hheap, hge, hcm, hsz, htk⟩⟩ := hO
      · omega
      have B0 : Aside0 (Below w.heap.size w (wr.alloc (.cells #[.slice none 0 0, .int .i64 0, .int .i8 0] 68))) := ⟨below_alloc HB.out _⟩
      have I0 := Aside0.mk (Lib.fresh_isBuffer 68 5 wr)
      go_wp2_with (go_at_call 25; (with_reducible refine (nb_calls _).mono ?_); rintro e1 w1 ⟨rfl, rfl⟩)
      have hel : e < wr.heap.size := blk_lt hheap
      have hwr : w.heap.size ≤ wr.heap.size := HB.out.size
      have HCE : Aside0 (∀ wi, Below wr.heap.size (wr.alloc (.cells #[.slice none 0 0, .int .i64 0, .int .i8 0] 68)) wi → ∀ j q, ps[j]? = some q → wi.cell? ⟨e, j, none⟩ = some (.pointer q)) := ⟨fun wi hb j q hj => by
        have hjl := (List.getElem?_eq_some_iff.1 hj).1
        rw [cell_of_row wi e j cur _ _ ((hb.block e hel).trans (blk_alloc hheap _))]
        have h1 : (cur.toList.take (ps.length * 1))[j]? = some (.pointer q) := by rw [htk, List.getElem?_map, hj]; rfl
        rw [List.getElem?_take_of_lt (by omega)] at h1
        simpa using h1⟩
      have HBW : Aside0 (∀ wi, Below wr.heap.size (wr.alloc (.cells #[.slice none 0 0, .int .i64 0, .int .i8 0] 68)) wi → Below w.heap.size w wi) := ⟨fun wi hb => below_weaken B0.out hwr hb⟩
      have HWS : Aside0 (∀ (A : List UInt8) (s : ByteArray) (wi : World), Lib.IsBuffer 68 5 wr.heap.size wr.heap.size (Lib.byteCells A) wi → Below wr.heap.size (wr.alloc (.cells #[.slice none 0 0, .int .i64 0, .int .i8 0] 68)) wi → A.length + s.size ≤ 140737488355328 →
          Calls Tryd.prog 26 #[.pointer (some ⟨wr.heap.size, 0, none⟩), .string s] wi fun e w' => (∃ t, e = .returned t) ∧ Lib.IsBuffer 68 5 wr.heap.size wr.heap.size (Lib.byteCells (A ++ s.data.toList)) w' ∧ Below wr.heap.size (wr.alloc (.cells #[.slice none 0 0, .int .i64 0, .int .i8 0] 68)) w') :=
        ⟨fun A s wi hi hb hl => (Tryd.Buffer_WriteString wr.heap.size wr.heap.size _ s wi hi (by have := hb.size; simp at this; omega) (Lib.byteCells_one _) (by rw [Lib.byteCells_length]; exact hl)).mono fun e w' h => ⟨⟨_, h.1⟩, by rw [← cells_add]; exact h.2.1, hb.trans h.2.2⟩⟩
      clear hheap htk hsz hcm hge HP I0 HO
      go_loopw [23] (fun i wi => ∃ k : Nat, k ≤ L.length ∧ i = .int .i64 (k : Int) ∧ Aside0 (Lib.IsBuffer 68 5 wr.heap.size wr.heap.size (Lib.byteCells (ptext (L.drop (L.length - k)))) wi) ∧ Aside0 (Below wr.heap.size (wr.alloc (.cells #[.slice none 0 0, .int .i64 0, .int .i8 0] 68)) wi)) (fun i _ => L.length - (intOf i).toNat)
      case atStart => exact ⟨0, Nat.zero_le _, rfl, ⟨by rw [Nat.sub_zero, List.drop_eq_nil_of_le (Nat.le_refl _)]; exact Lib.fresh_isBuffer 68 5 wr⟩, ⟨Below.refl _ _⟩⟩
      case round =>
        obtain ⟨k, hk, rfl, HI, HW⟩ := hrel
        have HBi := Aside0.mk (HBW.out _ HW.out)
        by_cases hlt : k < L.length
        · have q0 : ((k : Int) < (ps.length : Int)) = True := eq_true (by omega)
          obtain ⟨j, hj⟩ : ∃ j, L.length = j + k + 1 := ⟨L.length - k - 1, by omega⟩
          have hjl : j < L.length := by omega
          obtain ⟨q, hq⟩ : ∃ q, ps[j]? = some q := ⟨_, List.getElem?_eq_getElem (by omega)⟩
          have hP := HA.out j q hq
          obtain ⟨x, r, hx⟩ : ∃ x r, L.drop j = x :: r := ⟨_, _, List.drop_eq_getElem_cons hjl⟩
          have hr : r = L.drop (L.length - k) := by
            rw [List.drop_eq_getElem_cons hjl] at hx
            injection hx with _ h
            rw [← h, show L.length - k = j + 1 by omega]
          have hnew : ptext (L.drop (L.length - (k + 1))) = ptext (L.drop (L.length - k)) ++ piece x r.isEmpty := by
            rw [show L.length - (k + 1) = j by omega, hx, ptext, hr]
          have hlen := ptext_drop L (L.length - (k + 1))
          rw [hnew, List.length_append] at hlen
          rw [hx] at hP
          obtain ⟨g, p2, rfl, hg, h3⟩ := hP
          have hg' := blk_below hg HBi.out
          have ce := HCE.out _ HW.out j _ hq
          have c0 := blk_cell hg' 0
          have c1 := blk_cell hg' 1
          have c2 := blk_cell hg' 2
          simp at c0 c1 c2
          have HN := Aside0.mk hnew
          have HG := Aside0.mk hg
          rw [show j = L.length - 1 - k by omega] at ce
          have q0' : ((k : Int) < (L.length : Int)) = True := eq_true (by omega)
          have q1 : ((j : Int) < (L.length : Int)) = True := eq_true (by omega)
          have HJ := Aside0.mk hj
          by_cases hre : r = []
          · have hp2 : p2 = none := by rw [hre] at h3; exact h3
            subst hp2
            clear h3
            by_cases hs : x.1.size = 0
            ·
              have t0 : ((0 : Int) < (x.1.size : Int)) = False := eq_false (by omega)
              have t1 : (0 < x.1.size) = False := eq_false (by omega)
              have hp : piece x r.isEmpty = (⟨#[91]⟩ ++ x.2 ++ ⟨#[93]⟩ : ByteArray).data.toList := by unfold piece; rw [if_pos hs, data_add, data_add]; simp
              have hl : (ptext (L.drop (L.length - k))).length + (⟨#[91]⟩ ++ x.2 ++ ⟨#[93]⟩ : ByteArray).size ≤ 140737488355328 := by rw [size_toList, ← hp]; omega
              have hs2 : (⟨#[91]⟩ ++ x.2 ++ ⟨#[93]⟩ : ByteArray).size = 1 + x.2.size + 1 := by rw [ByteArray.size_append, ByteArray.size_append]; rfl
              have hx2 : x.2.size ≤ 70368744177664 := by rw [hp, ← size_toList, hs2] at hlen; omega
              have r1 : (9223372036854775807 < 1 + x.2.size) = False := eq_false (by omega)
              have r2 : (9223372036854775807 < 1 + x.2.size + 1) = False := eq_false (by omega)
              have HPc := Aside0.mk hp
              have HL := Aside0.mk hl
              clear hlen hnew hx hr hj hs hre hp hl hs2 hx2
              go_wp2_with (go_at_call 26; (with_reducible refine (HWS.out _ (⟨#[91]⟩ ++ x.2 ++ ⟨#[93]⟩) _ HI.out HW.out HL.out).mono ?_); rintro e3 w3 ⟨⟨t, rfl⟩, hi, hw⟩; have I3 := Aside0.mk hi; have W3 := Aside0.mk hw; clear hi hw)
              go_roundw
              case rel => exact ⟨k + 1, by have := HJ.out; omega, by go_num, ⟨by rw [HN.out]; rw [HPc.out]; exact I3.out⟩, W3⟩
              case measure => have := HJ.out; simp [intOf]; omega
            ·
              have t0 : ((0 : Int) < (x.1.size : Int)) = True := eq_true (by omega)
              have t1 : (0 < x.1.size) = True := eq_true (by omega)
              have hp : piece x r.isEmpty = x.1.data.toList := by unfold piece; rw [if_neg hs, hre]; rfl
              have hl : (ptext (L.drop (L.length - k))).length + x.1.size ≤ 140737488355328 := by rw [size_toList, ← hp]; omega
              have HPc := Aside0.mk hp
              have HL := Aside0.mk hl
              clear hlen hnew hx hr hj hs hre hp hl
              go_wp2_with (go_at_call 26; (with_reducible refine (HWS.out _ x.1 _ HI.out HW.out HL.out).mono ?_); rintro e3 w3 ⟨⟨t, rfl⟩, hi, hw⟩; have I3 := Aside0.mk hi; have W3 := Aside0.mk hw; clear hi hw)
              go_roundw
              case rel => exact ⟨k + 1, by have := HJ.out; omega, by go_num, ⟨by rw [HN.out]; rw [HPc.out]; exact I3.out⟩, W3⟩
              case measure => have := HJ.out; simp [intOf]; omega
          · obtain ⟨a2, rfl⟩ : ∃ a2, p2 = some a2 := by
              cases r with
              | nil => exact absurd rfl hre
              | cons y r => obtain ⟨g2, _, rfl, _⟩ := h3; exact ⟨_, rfl⟩
            clear h3
            by_cases hs : x.1.size = 0
            ·
              have t0 : ((0 : Int) < (x.1.size : Int)) = False := eq_false (by omega)
              have t1 : (0 < x.1.size) = False := eq_false (by omega)
              have hp : piece x r.isEmpty = (⟨#[91]⟩ ++ x.2 ++ ⟨#[93]⟩ : ByteArray).data.toList := by unfold piece; rw [if_pos hs, data_add, data_add]; simp
              have hl : (ptext (L.drop (L.length - k))).length + (⟨#[91]⟩ ++ x.2 ++ ⟨#[93]⟩ : ByteArray).size ≤ 140737488355328 := by rw [size_toList, ← hp]; omega
              have hs2 : (⟨#[91]⟩ ++ x.2 ++ ⟨#[93]⟩ : ByteArray).size = 1 + x.2.size + 1 := by rw [ByteArray.size_append, ByteArray.size_append]; rfl
              have hx2 : x.2.size ≤ 70368744177664 := by rw [hp, ← size_toList, hs2] at hlen; omega
              have r1 : (9223372036854775807 < 1 + x.2.size) = False := eq_false (by omega)
              have r2 : (9223372036854775807 < 1 + x.2.size + 1) = False := eq_false (by omega)
              have HPc := Aside0.mk hp
              have HL := Aside0.mk hl
              clear hlen hnew hx hr hj hs hre hp hl hs2 hx2
              go_wp2_with (go_at_call 26; (with_reducible refine (HWS.out _ (⟨#[91]⟩ ++ x.2 ++ ⟨#[93]⟩) _ HI.out HW.out HL.out).mono ?_); rintro e3 w3 ⟨⟨t, rfl⟩, hi, hw⟩; have I3 := Aside0.mk hi; have W3 := Aside0.mk hw; clear hi hw)
              go_roundw
              case rel => exact ⟨k + 1, by have := HJ.out; omega, by go_num, ⟨by rw [HN.out]; rw [HPc.out]; exact I3.out⟩, W3⟩
              case measure => have := HJ.out; simp [intOf]; omega
            ·
              have t0 : ((0 : Int) < (x.1.size : Int)) = True := eq_true (by omega)
              have t1 : (0 < x.1.size) = True := eq_true (by omega)
              have hp : piece x r.isEmpty = [46] ++ x.1.data.toList := by
                unfold piece; rw [if_neg hs, if_neg (by cases r with | nil => exact absurd rfl hre | cons _ _ => simp)]; rfl
              have hl1 : (ptext (L.drop (L.length - k))).length + (⟨#[46]⟩ : ByteArray).size ≤ 140737488355328 := by
                have : (⟨#[46]⟩ : ByteArray).size = 1 := rfl
                omega
              have hl2 : (ptext (L.drop (L.length - k)) ++ (⟨#[46]⟩ : ByteArray).data.toList).length + x.1.size ≤ 140737488355328 := by
                have h1 : (⟨#[46]⟩ : ByteArray).data.toList = [46] := rfl
                rw [hp, List.length_append] at hlen
                rw [h1, List.length_append, size_toList]; simp at hlen ⊢; omega
              have HPc := Aside0.mk hp
              have HL1 := Aside0.mk hl1
              have HL2 := Aside0.mk hl2
              clear hlen hnew hx hr hj hs hre hp hl1 hl2
              go_wp2_with (first
                | (go_at_call 26; (with_reducible refine (HWS.out _ ⟨#[46]⟩ _ HI.out HW.out HL1.out).mono ?_); rintro e3 w3 ⟨⟨t, rfl⟩, hi, hw⟩; have I3 := Aside0.mk hi; have W3 := Aside0.mk hw; have hg3 := blk_below HG.out (HBW.out _ W3.out); have d0 := blk_cell hg3 0; have d1 := blk_cell hg3 1; have d2 := blk_cell hg3 2; simp at d0 d1 d2; clear hi hw hg3)
                | (go_at_call 26; (with_reducible refine (HWS.out _ x.1 _ I3.out W3.out HL2.out).mono ?_); rintro e3 w4 ⟨⟨t, rfl⟩, hi, hw⟩; have I4 := Aside0.mk hi; have W4 := Aside0.mk hw; clear hi hw))
              go_roundw
              case rel => exact ⟨k + 1, by have := HJ.out; omega, by go_num, ⟨by rw [HN.out]; rw [HPc.out, ← List.append_assoc]; exact I4.out⟩, W4⟩
              case measure => have := HJ.out; simp [intOf]; omega
        · have q0 : ((k : Int) < (ps.length : Int)) = False := eq_false (by omega)
          have hkL : k = L.length := by omega
          go_wp2_with (go_at_call 27; (with_reducible refine (Tryd.Buffer_String _ _ _ _ HI.out).mono ?_); rintro e2 w2 ⟨rfl, n, rfl⟩)
          go_ret
          exact ⟨rfl, pw_below_drewN HBi.out _⟩
end Go.Proofs.YtnopoobidhaccaaDoor.Path
