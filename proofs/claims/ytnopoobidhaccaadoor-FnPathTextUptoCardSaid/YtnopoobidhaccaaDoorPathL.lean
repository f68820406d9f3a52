/- Paths: the law. -/
import Derived.Test.YtnopoobidhaccaaDoorPathP
set_option linter.unusedVariables false
set_option linter.unusedSimpArgs false
namespace Go.Proofs.YtnopoobidhaccaaDoor.Path
open Go Go.Sort Go.RowKit Go.Proofs.YtnopoobidhaccaaDoorW.PrintWords Go.Proofs.YtnopoobidhaccaaDoor.PFnPathText

theorem fits4_f (l : List ByteArray) (hl : l.length ≤ 1073741824) (hs : ∀ s ∈ l, s.size ≤ 2147483647) : laws_zzFits4.f (l.length + 1) l = some true := by
  have step : ∀ n m, m + n = l.length → laws_zzFits4.l0 (n + 1) l (l.length : Int) (m : Int) = some true := by
    intro n
    induction n with
    | zero => intro m hm; rw [laws_zzFits4.l0, if_neg (by omega)]
    | succ n ih =>
      intro m hm
      have hlt : m < l.length := by omega
      have hx : rdOf ByteArray.empty l (m : Int) = l[m] := by unfold rdOf; rw [Int.toNat_natCast, List.getD_eq_getElem?_getD, List.getElem?_eq_getElem hlt]; rfl
      have h1 := hs l[m] (List.getElem_mem hlt)
      rw [laws_zzFits4.l0, if_pos (by omega), if_pos (by omega), if_pos (by omega), hx, if_neg (by omega), Small.w64s m (by omega)]
      exact ih (m + 1) (by omega)
  unfold laws_zzFits4.f
  rw [if_neg (by omega)]
  exact step l.length 0 (by omega)
theorem fits6_f (l : List S27) (hl : l.length ≤ 1073741824) (hs : ∀ x ∈ l, x.f1.size ≤ 2147483647) : laws_zzFits6.f (l.length + 1) l = some true := by
  have step : ∀ n m, m + n = l.length → laws_zzFits6.l0 (n + 1) l (l.length : Int) (m : Int) = some true := by
    intro n
    induction n with
    | zero => intro m hm; rw [laws_zzFits6.l0, if_neg (by omega)]
    | succ n ih =>
      intro m hm
      have hlt : m < l.length := by omega
      have hx : rd_T27 l (m : Int) = l[m] := by unfold rd_T27; rw [Int.toNat_natCast, List.getD_eq_getElem?_getD, List.getElem?_eq_getElem hlt]; rfl
      have h1 := hs l[m] (List.getElem_mem hlt)
      rw [laws_zzFits6.l0, if_pos (by omega), if_pos (by omega), if_pos (by omega), hx]
      unfold laws_zzFits7.f
      rw [if_neg (by omega), Option.bind_some, if_pos rfl, Small.w64s m (by omega)]
      exact ih (m + 1) (by omega)
  unfold laws_zzFits6.f
  rw [if_neg (by omega)]
  exact step l.length 0 (by omega)
/-- What the law makes of a step. -/
def norm (x : S27) : S27 := if x.f0 = 0 ∨ x.f0 = 1 then x else { x with f0 := 2 }

theorem make_way (n : Nat) (h : n ≤ 1073741824) : ∃ cs0 : Array Value, cs0.size = n * 3 ∧ ∀ W, Sem.run Tryd.prog (Instr.makeSlice 23 (.int .i64 (n : Int)) (.int .i64 (n : Int))) W = .ok (.slice (some ⟨W.heap.size, 0, none⟩) n n) (W.alloc (.cells cs0 27)) := by
  obtain ⟨i0, hi, hz0, hz1, hz2⟩ := info_parts (show (Tryd.prog.info? 27).map (fun i => (i.zero, i.size, i.bytes)) = some (some (.agg #[.int .i64 0, .string ⟨#[]⟩, .int .i64 0]), 3, 32) by kernel_rfl)
  refine ⟨madeCells (Value.agg #[.int .i64 0, .string ⟨#[]⟩, .int .i64 0]).cells (n * i0.size), ?_, fun W => ?_⟩
  rotate_left
  · have := run_make (P := Tryd.prog) W 23 27 i0 _ Tryd.underlying23 hi hz0 .i64 .i64 (n : Int) (n : Int) (by omega) (by omega) (by rw [hz2]; omega) (by omega)
    simp only [Int.toNat_natCast] at this
    exact this
  · rw [size_madeCells, hz1]
/-- The steps that are copied: the first k are what they are to be. -/
def Way (w : World) (g k : Nat) (ls : List S27) (cs : Array Value) : Prop := w.heap[g]? = some (.cells cs 27 (0, 0)) ∧ cs.size = ls.length * 3 ∧
  ∀ j, j < k → ∀ x, ls[j]? = some x → cs[j * 3]? = some (.int .i64 (norm x).f0) ∧ cs[j * 3 + 1]? = some (.string (norm x).f1) ∧ cs[j * 3 + 2]? = some (.int .i64 (norm x).f2)
theorem Way.at {w : World} {g k : Nat} {ls : List S27} {cs : Array Value} (h : Way w g k ls cs) {i : Nat} (hi : i < ls.length * 3) : ∃ u, w.cell? ⟨g, i, none⟩ = some u :=
  ⟨cs[i]'(by rw [h.2.1]; exact hi), by rw [blk_cell h.1 i]; exact Array.getElem?_eq_getElem _⟩

theorem Way.step {w w' : World} {g k : Nat} {ls : List S27} {cs cs' : Array Value} (h : Way w g k ls cs) (hlt : k < ls.length) (hh : w'.heap[g]? = some (.cells cs' 27 (0, 0))) (hs : cs'.size = cs.size) (ho : ∀ i, i < k * 3 → cs'[i]? = cs[i]?)
    (n0 : cs'[k * 3]? = some (.int .i64 (norm ls[k]).f0)) (n1 : cs'[k * 3 + 1]? = some (.string (norm ls[k]).f1)) (n2 : cs'[k * 3 + 2]? = some (.int .i64 (norm ls[k]).f2)) : Way w' g (k + 1) ls cs' := by
  refine ⟨hh, hs.trans h.2.1, fun j hj x hx => ?_⟩
  rcases Nat.lt_or_ge j k with hjk | hjk
  · obtain ⟨a, b, c⟩ := h.2.2 j hjk x hx
    exact ⟨(ho _ (by omega)).trans a, (ho _ (by omega)).trans b, (ho _ (by omega)).trans c⟩
  · obtain rfl : j = k := by omega
    rw [List.getElem?_eq_getElem hlt] at hx
    obtain rfl := Option.some.inj hx
    exact ⟨n0, n1, n2⟩
abbrev set3 (cs : Array Value) (k : Nat) (a b c : Value) : Array Value := ((cs.setIfInBounds (k * 3) a).setIfInBounds (k * 3 + 1) b).setIfInBounds (k * 3 + 2) c
theorem set3_get {cs : Array Value} {k n : Nat} (h : cs.size = n * 3) (hk : k < n) (a b c : Value) : (set3 cs k a b c)[k * 3]? = some a ∧ (set3 cs k a b c)[k * 3 + 1]? = some b ∧ (set3 cs k a b c)[k * 3 + 2]? = some c ∧ (∀ i, i < k * 3 → (set3 cs k a b c)[i]? = cs[i]?) ∧ (set3 cs k a b c).size = cs.size := by
  refine ⟨?_, ?_, ?_, fun i hi => ?_, by simp⟩
  · simp [Array.getElem?_setIfInBounds]; omega
  · simp [Array.getElem?_setIfInBounds]; omega
  · simp [Array.getElem?_setIfInBounds]; omega
  · simp only [Array.getElem?_setIfInBounds]
    rw [if_neg (by omega), if_neg (by omega), if_neg (by omega)]

theorem norm_f2 (x : S27) : (norm x).f2 = x.f2 := by unfold norm; split <;> rfl
theorem norm_f1 (x : S27) : (norm x).f1 = x.f1 := by unfold norm; split <;> rfl
theorem norm_do (x : S27) (h : x.f0 = 0 → x.f1.size ≠ 0) : ((norm x).f0 = 0 ∧ (norm x).f1.size ≠ 0) ∨ (norm x).f0 = 1 ∨ (norm x).f0 = 2 := by
  unfold norm
  split
  · rename_i hx
    rcases hx with h0 | h1
    · exact .inl ⟨h0, h h0⟩
    · exact .inr (.inl h1)
  · exact .inr (.inr rfl)
theorem size_ne {s : ByteArray} (h : s.toList ≠ []) : s.size ≠ 0 := fun e => h (by
  rw [Txt.toL]
  exact List.eq_nil_of_length_eq_zero (by rw [← Txt.size_len]; exact e))
theorem Way.toC {w : World} {g : Nat} {ls : List S27} {cs : Array Value} (h : Way w g ls.length ls cs) (hl : ls.length ≤ 1073741824) : Kd.C k27 w (some ⟨g, 0, none⟩) (ls.map norm).length (ls.map norm) := by
  refine ⟨rfl, by rw [List.length_map]; omega, fun _ => ⟨⟨g, 0, none⟩, rfl, fun j p hp => ⟨_, rfl, k27_mk w p, fun i u hu => ?_⟩⟩⟩
  rw [List.getElem?_map] at hp
  obtain ⟨x, hx, rfl⟩ := Option.map_eq_some_iff.1 hp
  have hj := (List.getElem?_eq_some_iff.1 hx).1
  obtain ⟨a, b, c⟩ := h.2.2 j hj x hx
  rw [Addr.add_lit, Nat.zero_add, blk_cell h.1]
  match i, hu with
  | 0, hu => obtain rfl := Option.some.inj hu; exact a
  | 1, hu => obtain rfl := Option.some.inj hu; exact b
  | 2, hu => obtain rfl := Option.some.inj hu; exact c

set_option maxRecDepth 100000 in
set_option maxHeartbeats 4000000 in
theorem law_calls (first : ByteArray) (A1 : Option Addr) (c1 : Nat) (more : List ByteArray) (A2 : Option Addr) (c2 : Nat) (ls : List S27) (w : World) (h1 : Kd.C Kd.string w A1 more.length more) (hc1 : more.length ≤ c1) (h2 : Kd.C k27 w A2 ls.length ls) (hc2 : ls.length ≤ c2)
    (hwf : ∀ x ∈ ls, -9223372036854775808 ≤ x.f2 ∧ x.f2 ≤ 9223372036854775807) (hf : first.size ≤ 1073741) (hm1 : more.length ≤ 1073741) (hm2 : ls.length ≤ 1073741) (hs1 : ∀ s ∈ more, s.size ≤ 1073741) (hs2 : ∀ x ∈ ls, x.f1.size ≤ 1073741)
    (htxt : (ptext (pathOf first more (ls.map norm))).length ≤ 70368744177664) (htab : Lib.TabIs Tryd.prog w "internal/strconv.uint64pow10" .u64 Lib.pow10Tab) :
    Calls Tryd.prog 3 #[.string first, .slice A1 more.length c1, .slice A2 ls.length c2] w fun e w' => e = .returned (.bool true) ∧ Below w.heap.size w w' := by
  have mixed : Tryd.prog.follows .mixedOrders = true := by kernel_rfl
  have hu1 := Tryd.underlying27
  have HT : Aside0 (∀ w', Below w.heap.size w w' → Lib.TabIs Tryd.prog w' "internal/strconv.uint64pow10" .u64 Lib.pow10Tab) := ⟨Lib.tabBelow_of_tabIs htab⟩
  have HF4 : Aside0 (Calls Tryd.prog 5 #[.slice A1 more.length c1] w fun e w' => e = .returned (.bool true) ∧ Below w.heap.size w w') := ⟨(laws_zzFits4.calls _ A1 c1 more true w h1 hc1 (fits4_f more (by omega) (fun s hs => by have := hs1 s hs; omega))).mono fun e w' h => by
    obtain ⟨rfl, nd, rfl⟩ := h
    exact ⟨rfl, pw_below_drewN (Below.refl _ _) nd⟩⟩
  have HF6 : Aside0 (∀ w1, Below w.heap.size w w1 → Calls Tryd.prog 6 #[.slice A2 ls.length c2] w1 fun e w' => e = .returned (.bool true) ∧ Below w1.heap.size w1 w') := ⟨fun w1 hb => (laws_zzFits6.calls _ A2 c2 ls true w1 (Kd.C_below h2 hb) hc2 (fits6_f ls (by omega) (fun s hs => by have := hs2 s hs; omega))).mono fun e w' h => h⟩
  have H1 := Aside0.mk h1
  have H2 := Aside0.mk h2
  have q0 : (2147483647 < (first.size : Int)) = False := eq_false (by omega)
  have q0' : (2147483647 < first.size) = False := eq_false (by omega)
  have HW := Aside0.mk hwf
  clear htab h1 h2 hwf
  by_cases hfe : first.toList = []
  · have b0 : (first.toList == []) = true := by rw [hfe]; rfl
    go_enter Tryd.func3, Tryd.ntmps3
    go_wp2_with (first
      | (go_at_call 5; (with_reducible refine (HF4.out).mono ?_); rintro e w1 ⟨rfl, hb⟩; have B1 := Aside0.mk hb; clear hb)
      | (go_at_call 6; (with_reducible refine (HF6.out _ B1.out).mono ?_); rintro e w2 ⟨rfl, hb⟩; have B2 := Aside0.mk (below_step B1.out hb); clear hb))
    go_ret
    exact ⟨rfl, B2.out⟩
  · have b0 : (first.toList == []) = false := beq_eq_false_iff_ne.2 hfe
    go_enter Tryd.func3, Tryd.ntmps3
    go_wp2_with (first
      | (go_at_call 5; (with_reducible refine (HF4.out).mono ?_); rintro e w1 ⟨rfl, hb⟩; have B1 := Aside0.mk hb; clear hb)
      | (go_at_call 6; (with_reducible refine (HF6.out _ B1.out).mono ?_); rintro e w2 ⟨rfl, hb⟩; have B2 := Aside0.mk (below_step B1.out hb); clear hb))
    go_loopw [7] (fun i wr => ∃ k : Nat, k ≤ more.length ∧ i = .int .i64 (k : Int) ∧ Aside0 (∀ s ∈ more.take k, s.toList ≠ []) ∧ Aside0 (Below w.heap.size w wr)) (fun i _ => more.length - (intOf i).toNat)
    case atStart => exact ⟨0, Nat.zero_le _, rfl, ⟨by simp⟩, B2⟩
    case round =>
      obtain ⟨k, hk, rfl, HM, HB⟩ := hrel
      by_cases hlt : k < more.length
      · have p0 : ((k : Int) < (more.length : Int)) = True := eq_true (by omega)
        obtain ⟨ad, rfl, hx⟩ := Kd.at_string H1.out (k : Int) (by omega) (by omega)
        have hx' := (HB.out).cell (World.block_lt_of_cell? w _ hx) |>.trans hx
        simp only [Int.toNat_natCast] at hx'
        clear hx
        have hxe : rdOf ByteArray.empty more (k : Int) = more[k] := by unfold rdOf; rw [Int.toNat_natCast, List.getD_eq_getElem?_getD, List.getElem?_eq_getElem hlt]; rfl
        rw [hxe] at hx'
        by_cases hse : more[k].toList = []
        · have b1 : (more[k].toList == []) = true := by rw [hse]; rfl
          go_wp2
          go_ret
          exact ⟨rfl, HB.out⟩
        · have b1 : (more[k].toList == []) = false := beq_eq_false_iff_ne.2 hse
          have HSE := Aside0.mk hse
          clear hse hxe
          go_wp2
          go_roundw
          case rel => exact ⟨k + 1, by omega, by go_num, ⟨by
            rw [List.take_succ_eq_append_getElem hlt]
            intro s hs
            rcases List.mem_append.1 hs with h | h
            · exact HM.out s h
            · rw [List.mem_singleton.1 h]; exact HSE.out⟩, HB⟩
          case measure => simp [intOf]; omega
      · have p0 : ((k : Int) < (more.length : Int)) = False := eq_false (by omega)
        have HMall : Aside0 (∀ s ∈ more, s.toList ≠ []) := ⟨fun s hs => HM.out s (by rw [List.take_of_length_le (by omega)]; exact hs)⟩
        have HBa := HB
        clear HM HB
        go_wp2
        go_loopw [8] (fun i wr => ∃ k : Nat, k ≤ ls.length ∧ i = .int .i64 (k : Int) ∧ Aside0 (∀ x ∈ ls.take k, x.f0 = 0 → x.f1.toList ≠ []) ∧ Aside0 (Below w.heap.size w wr)) (fun i _ => ls.length - (intOf i).toNat)
        case atStart => exact ⟨0, Nat.zero_le _, rfl, ⟨by simp⟩, HBa⟩
        case round =>
          clear HBa
          obtain ⟨k, hk, rfl, HM, HB⟩ := hrel
          by_cases hlt : k < ls.length
          · have p0 : ((k : Int) < (ls.length : Int)) = True := eq_true (by omega)
            obtain ⟨ad, rfl, x0, x1, x2⟩ := at_T27 H2.out (k : Int) (by omega) (by omega)
            simp only [Int.toNat_natCast] at x0 x1 x2
            replace x0 := (HB.out.cell (World.block_lt_of_cell? w _ x0)).trans x0
            replace x1 := (HB.out.cell (World.block_lt_of_cell? w _ x1)).trans x1
            clear x2
            have hxe : rd_T27 ls (k : Int) = ls[k] := by unfold rd_T27; rw [Int.toNat_natCast, List.getD_eq_getElem?_getD, List.getElem?_eq_getElem hlt]; rfl
            rw [hxe] at x0 x1
            clear hxe
            by_cases hbad : ls[k].f0 = 0 ∧ ls[k].f1.toList = []
            · have b1 : (ls[k].f0 == 0) = true := beq_iff_eq.2 hbad.1
              have b2 : (ls[k].f1.toList == []) = true := by rw [hbad.2]; rfl
              clear hbad
              go_wp2
              go_ret
              exact ⟨rfl, HB.out⟩
            · have HN : Aside0 (∀ x ∈ ls.take (k + 1), x.f0 = 0 → x.f1.toList ≠ []) := ⟨by
                rw [List.take_succ_eq_append_getElem hlt]
                intro s hs
                rcases List.mem_append.1 hs with h | h
                · exact HM.out s h
                · rw [List.mem_singleton.1 h]; exact fun h0 h1 => hbad ⟨h0, h1⟩⟩
              by_cases f0 : ls[k].f0 = 0
              · have b1 : (ls[k].f0 == 0) = true := beq_iff_eq.2 f0
                have b2 : (ls[k].f1.toList == []) = false := beq_eq_false_iff_ne.2 (fun h => hbad ⟨f0, h⟩)
                clear hbad f0
                go_wp2
                go_roundw
                case rel => exact ⟨k + 1, by omega, by go_num, HN, HB⟩
                case measure => simp [intOf]; omega
              · have b1 : (ls[k].f0 == 0) = false := beq_eq_false_iff_ne.2 f0
                clear hbad f0
                go_wp2
                go_roundw
                case rel => exact ⟨k + 1, by omega, by go_num, HN, HB⟩
                case measure => simp [intOf]; omega
          · have p0 : ((k : Int) < (ls.length : Int)) = False := eq_false (by omega)
            have HLall : Aside0 (∀ x ∈ ls, x.f0 = 0 → x.f1.toList ≠ []) := ⟨fun s hs => HM.out s (by rw [List.take_of_length_le (by omega)]; exact hs)⟩
            have HBb := HB
            clear HM HB
            obtain ⟨cs0, hcs0, hmk⟩ := make_way ls.length (by omega)
            go_wp2
            clear hmk
            obtain ⟨g, hgd⟩ : ∃ g, g = wr.heap.size := ⟨_, rfl⟩
            rw [← hgd]
            have HG : Aside0 (w.heap.size ≤ g) := ⟨by rw [hgd]; exact HBb.out.size⟩
            have HN0 : Aside0 ((wr.alloc (.cells cs0 27)).heap[g]? = some (.cells cs0 27 (0, 0))) := ⟨by rw [hgd]; exact blk_new wr _⟩
            clear hgd
            go_loopw [10] (fun i wr => ∃ (k : Nat) (cs : Array Value), k ≤ ls.length ∧ i = .int .i64 (k : Int) ∧ Aside0 (Way wr g k ls cs) ∧ Aside0 (Below w.heap.size w wr)) (fun i _ => ls.length - (intOf i).toNat)
            case atStart => exact ⟨0, cs0, Nat.zero_le _, rfl, ⟨⟨HN0.out, hcs0, fun j hj => absurd hj (by omega)⟩⟩, ⟨below_alloc HBb.out _⟩⟩
            case round =>
              clear HBb HN0
              obtain ⟨k, cs, hk, rfl, HY, HB⟩ := hrel
              by_cases hlt : k < ls.length
              · have p0 : ((k : Int) < (ls.length : Int)) = True := eq_true (by omega)
                obtain ⟨ad, rfl, x0, x1, x2⟩ := at_T27 H2.out (k : Int) (by omega) (by omega)
                simp only [Int.toNat_natCast] at x0 x1 x2
                have hbl : (ad.add (k * 3)).block ≠ g := by have h1 := World.block_lt_of_cell? w _ x0; have h2 := HG.out; omega
                replace x0 := (HB.out.cell (World.block_lt_of_cell? w _ x0)).trans x0
                replace x1 := (HB.out.cell (World.block_lt_of_cell? w _ x1)).trans x1
                replace x2 := (HB.out.cell (World.block_lt_of_cell? w _ x2)).trans x2
                have hxe : rd_T27 ls (k : Int) = ls[k] := by unfold rd_T27; rw [Int.toNat_natCast, List.getD_eq_getElem?_getD, List.getElem?_eq_getElem hlt]; rfl
                rw [hxe] at x0 x1 x2
                clear hxe
                obtain ⟨u0, y0⟩ : ∃ u, wr.cell? ⟨g, k * 3, none⟩ = some u := HY.out.at (by omega)
                obtain ⟨u1, y1⟩ : ∃ u, wr.cell? ⟨g, k * 3 + 1, none⟩ = some u := HY.out.at (by omega)
                obtain ⟨u2, y2⟩ : ∃ u, wr.cell? ⟨g, k * 3 + 2, none⟩ = some u := HY.out.at (by omega)
                have z0 := blk_frozen HY.out.1 (k * 3)
                have z1 := blk_frozen HY.out.1 (k * 3 + 1)
                have z2 := blk_frozen HY.out.1 (k * 3 + 2)
                obtain ⟨g0, g1, g2, g3, g4⟩ := set3_get HY.out.2.1 hlt (.int .i64 ls[k].f0) (.string ls[k].f1) (.int .i64 ls[k].f2)
                have W3 := Aside0.mk (blk_set (blk_set (blk_set HY.out.1 (k * 3) (.int .i64 ls[k].f0)) (k * 3 + 1) (.string ls[k].f1)) (k * 3 + 2) (.int .i64 ls[k].f2))
                have y3 : (((wr.setCell ⟨g, k * 3, none⟩ (.int .i64 ls[k].f0)).setCell ⟨g, k * 3 + 1, none⟩ (.string ls[k].f1)).setCell ⟨g, k * 3 + 2, none⟩ (.int .i64 ls[k].f2)).cell? ⟨g, k * 3, none⟩ = some (.int .i64 ls[k].f0) := (blk_cell W3.out (k * 3)).trans g0
                have z3 := blk_frozen W3.out (k * 3)
                have y6 : (((wr.setCell ⟨g, k * 3, none⟩ (.int .i64 ls[k].f0)).setCell ⟨g, k * 3 + 1, none⟩ (.string ls[k].f1)).setCell ⟨g, k * 3 + 2, none⟩ (.int .i64 ls[k].f2)).cell? (ad.add (k * 3)) = some (.int .i64 ls[k].f0) := by
                  rw [cell_far (by exact hbl), cell_far (by exact hbl), cell_far (by exact hbl)]; exact x0
                clear hbl
                have G := Aside0.mk (And.intro g0 (And.intro g1 (And.intro g2 (And.intro g3 g4))))
                clear g0 g1 g2 g3 g4
                by_cases hn : ls[k].f0 = 0 ∨ ls[k].f0 = 1
                · have HNM : Aside0 (norm ls[k] = ls[k]) := ⟨by unfold norm; rw [if_pos hn]⟩
                  by_cases f0 : ls[k].f0 = 0
                  · have b1 : (ls[k].f0 != 0) = false := by rw [f0]; rfl
                    have b3 : (ls[k].f0 = 0) = True := eq_true f0
                    clear hn f0
                    go_wp2
                    go_roundw
                    case rel => exact ⟨k + 1, _, by omega, by go_num, ⟨HY.out.step hlt W3.out G.out.2.2.2.2 G.out.2.2.2.1 (by rw [HNM.out]; exact G.out.1) (by rw [HNM.out]; exact G.out.2.1) (by rw [HNM.out]; exact G.out.2.2.1)⟩, ⟨by repeat (first | (with_reducible exact HB.out) | refine below_set ?_ HG.out)⟩⟩
                    case measure => simp [intOf]; omega
                  · have b1 : (ls[k].f0 != 0) = true := bne_iff_ne.2 f0
                    have b2 : (ls[k].f0 != 1) = false := by rw [hn.resolve_left f0]; rfl
                    have b3 : (ls[k].f0 = 0) = False := eq_false f0
                    clear hn f0
                    go_wp2
                    go_roundw
                    case rel => exact ⟨k + 1, _, by omega, by go_num, ⟨HY.out.step hlt W3.out G.out.2.2.2.2 G.out.2.2.2.1 (by rw [HNM.out]; exact G.out.1) (by rw [HNM.out]; exact G.out.2.1) (by rw [HNM.out]; exact G.out.2.2.1)⟩, ⟨by repeat (first | (with_reducible exact HB.out) | refine below_set ?_ HG.out)⟩⟩
                    case measure => simp [intOf]; omega
                · have b1 : (ls[k].f0 != 0) = true := bne_iff_ne.2 (fun h => hn (.inl h))
                  have b2 : (ls[k].f0 != 1) = true := bne_iff_ne.2 (fun h => hn (.inr h))
                  have b3 : (ls[k].f0 = 0) = False := eq_false (fun h => hn (.inl h))
                  have HNM : Aside0 (norm ls[k] = { ls[k] with f0 := 2 }) := ⟨by unfold norm; rw [if_neg hn]⟩
                  have W4 := Aside0.mk (blk_set W3.out (k * 3) (.int .i64 2))
                  clear hn
                  go_wp2
                  go_roundw
                  case rel => exact ⟨k + 1, _, by omega, by go_num, ⟨HY.out.step hlt W4.out (by rw [Array.size_setIfInBounds]; exact G.out.2.2.2.2) (fun i hi => by rw [Array.getElem?_setIfInBounds_ne (by omega)]; exact G.out.2.2.2.1 i hi) (by rw [HNM.out, Array.getElem?_setIfInBounds_self_of_lt (by rw [G.out.2.2.2.2, HY.out.2.1]; omega)]) (by rw [HNM.out, Array.getElem?_setIfInBounds_ne (by omega)]; exact G.out.2.1) (by rw [HNM.out, Array.getElem?_setIfInBounds_ne (by omega)]; exact G.out.2.2.1)⟩, ⟨by repeat (first | (with_reducible exact HB.out) | refine below_set ?_ HG.out)⟩⟩
                  case measure => simp [intOf]; omega
              · have hkl : k = ls.length := by omega
                subst hkl
                have p0 : ((ls.length : Int) < (ls.length : Int)) = False := eq_false (by omega)
                have hC := HY.out.toC (by omega)
                have hwf2 : ∀ x ∈ ls.map norm, -9223372036854775808 ≤ x.f2 ∧ x.f2 ≤ 9223372036854775807 := fun x hx => by
                  obtain ⟨y, hy, rfl⟩ := List.mem_map.1 hx
                  rw [norm_f2]; exact HW.out y hy
                have hdo : ∀ x ∈ ls.map norm, (x.f0 = 0 ∧ x.f1.size ≠ 0) ∨ x.f0 = 1 ∨ x.f0 = 2 := fun x hx => by
                  obtain ⟨y, hy, rfl⟩ := List.mem_map.1 hx
                  exact norm_do y (fun h => size_ne (HLall.out y hy h))
                obtain ⟨ht1, ht2⟩ := text_f first more (ls.map norm) (size_ne hfe) htxt (by rw [List.length_map]; omega) (by omega) hdo hwf2 (fun s hs => size_ne (HMall.out s hs)) _ (Nat.le_refl _)
                have hI := impl_calls first A1 c1 more (some ⟨g, 0, none⟩) ls.length (ls.map norm) _ (Kd.C_below H1.out HB.out) hc1 hC hwf2 hm1 (by rw [List.length_map]; exact hm2) htxt (HT.out _ HB.out)
                rw [show (⟨(ptext [(first, (⟨#[]⟩ : ByteArray))]).toArray⟩ : ByteArray) = first from ht2] at hI
                simp only [List.length_map] at hI
                have HI := Aside0.mk hI
                have HSp : Aside0 (∀ w', Below wr.heap.size wr w' → Calls Tryd.prog 8 #[.string first, .slice A1 more.length c1, .slice (some ⟨g, 0, none⟩) ls.length ls.length] w' fun e w'' => e = .returned (.tuple #[.string ⟨(ptext (pathOf first more (ls.map norm))).toArray⟩, .string first]) ∧ Below w'.heap.size w' w'') := ⟨fun w' hb => by
                  have h := spec_PathText.calls _ first A1 c1 more (some ⟨g, 0, none⟩) ls.length (ls.map norm) _ _ w' (Kd.C_below (Kd.C_below H1.out HB.out) hb) hc1 (Kd.C_below hC hb) (by rw [List.length_map]; exact Nat.le_refl _) ht1
                  simp only [List.length_map] at h
                  exact h⟩
                clear hI hC hwf2 hdo ht1 ht2 htxt hfe hk
                go_wp2_with (first
                  | (go_at_call 7; (with_reducible refine (HI.out).mono ?_); rintro e w5 ⟨rfl, hb⟩; have B5 := Aside0.mk (below_step HB.out hb); have B55 := Aside0.mk hb; clear hb)
                  | (go_at_call 8; (with_reducible refine (HSp.out _ B55.out).mono ?_); rintro e w6 ⟨rfl, hb⟩; have B6 := Aside0.mk (below_step B5.out hb); clear hb))
                go_ret
                exact ⟨by first | rfl | (simp; done), B6.out⟩
theorem ptext_len (M : Nat) : ∀ L : List Nm, (∀ x ∈ L, x.1.size ≤ M ∧ x.2.size ≤ M) → (ptext L).length ≤ L.length * (M + 2) := by
  intro L
  induction L with
  | nil => intro _; simp [ptext]
  | cons x r ih =>
    intro h
    have h1 := ih (fun y hy => h y (List.mem_cons_of_mem _ hy))
    have h2 := h x List.mem_cons_self
    have hp : (piece x r.isEmpty).length ≤ M + 2 := by
      unfold piece
      split
      · simp only [List.length_cons, List.length_append, List.length_nil]
        rw [← size_toList]; omega
      · split
        · rw [← size_toList]; omega
        · rw [List.length_cons, ← size_toList]; omega
    rw [ptext, List.length_append, List.length_cons, Nat.add_mul, Nat.one_mul]
    omega
/-- The law at bounded sizes: no premise on the text is left. -/
theorem law_small (first : ByteArray) (A1 : Option Addr) (c1 : Nat) (more : List ByteArray) (A2 : Option Addr) (c2 : Nat) (ls : List S27) (w : World) (h1 : Kd.C Kd.string w A1 more.length more) (hc1 : more.length ≤ c1) (h2 : Kd.C k27 w A2 ls.length ls) (hc2 : ls.length ≤ c2)
    (hwf : ∀ x ∈ ls, -9223372036854775808 ≤ x.f2 ∧ x.f2 ≤ 9223372036854775807) (hf : first.size ≤ 1073741) (hm1 : more.length ≤ 1073741) (hm2 : ls.length ≤ 1073741) (hs1 : ∀ s ∈ more, s.size ≤ 1073741) (hs2 : ∀ x ∈ ls, x.f1.size ≤ 1073741)
    (htab : Lib.TabIs Tryd.prog w "internal/strconv.uint64pow10" .u64 Lib.pow10Tab) :
    Calls Tryd.prog 3 #[.string first, .slice A1 more.length c1, .slice A2 ls.length c2] w fun e w' => e = .returned (.bool true) ∧ Below w.heap.size w w' := by
  refine law_calls first A1 c1 more A2 c2 ls w h1 hc1 h2 hc2 hwf hf hm1 hm2 hs1 hs2 ?_ htab
  have hl := ptext_len 1073741 (pathOf first more (ls.map norm)) (fun x hx => by
    unfold pathOf names at hx
    rcases List.mem_append.1 hx with h | h
    · obtain ⟨y, hy, rfl⟩ := List.mem_map.1 (List.mem_reverse.1 h)
      obtain ⟨z, hz, rfl⟩ := List.mem_map.1 hy
      have hz1 := hs2 z hz
      have hz2 := hwf z hz
      have hi := itoaB_size (norm z).f2 (by rw [norm_f2]; exact hz2.1) (by rw [norm_f2]; exact hz2.2)
      have h0 : (⟨#[]⟩ : ByteArray).size = 0 := rfl
      unfold itoaB at hi
      unfold stepN
      split
      · exact ⟨by rw [norm_f1]; exact hz1, by show (⟨#[]⟩ : ByteArray).size ≤ _; omega⟩
      · split
        · exact ⟨by show (⟨#[]⟩ : ByteArray).size ≤ _; omega, Nat.le_trans hi (by omega)⟩
        · exact ⟨by show (⟨#[]⟩ : ByteArray).size ≤ _; omega, by rw [norm_f1]; exact hz1⟩
    · have h0 : (⟨#[]⟩ : ByteArray).size = 0 := rfl
      rcases List.mem_append.1 h with h | h
      · obtain ⟨s, hs, rfl⟩ := List.mem_map.1 (List.mem_reverse.1 h)
        exact ⟨hs1 s hs, by show (⟨#[]⟩ : ByteArray).size ≤ _; omega⟩
      · rw [List.mem_singleton.1 h]
        exact ⟨hf, by show (⟨#[]⟩ : ByteArray).size ≤ _; omega⟩)
  have hL : (pathOf first more (ls.map norm)).length = ls.length + more.length + 1 := by unfold pathOf names; simp; omega
  rw [hL] at hl
  have h3 : (ls.length + more.length + 1) * (1073741 + 2) ≤ 2147483 * (1073741 + 2) := Nat.mul_le_mul_right _ (by omega)
  omega
end Go.Proofs.YtnopoobidhaccaaDoor.Path
