/- A text unescaped: the walks, at every text that is UTF-8. -/
import Derived.Test.YthejejeginnbdaaGreatDoorSmall
import Derived.Test.YthejejeginnbdaaGreatDoorShelf
import Derived.Test.YthejejeginnbdaaGreatDoorFdN
import Derived.Laws.Cover4
import Derived.RegionTactic
import Derived.Test.YthejejeginnbdaaGreatDoorTxt
import Derived.Lib.OthersKept
import Derived.Lib.BufferKept
import Derived.Lib.MapLaws
import Derived.WalkKit
import Derived.WalkMore
import Derived.BigCall
set_option linter.unusedVariables false
set_option linter.unusedSimpArgs false
namespace Go.Proofs.YthejejeginnbdaaGreatDoor.FdU
open Go Go.RowKit Go.Proofs.YthejejeginnbdaaGreatDoorW.PrintWords Go.Proofs.YthejejeginnbdaaGreatDoor.Txt Go.Proofs.YthejejeginnbdaaGreatDoor Go.Proofs.YthejejeginnbdaaGreatDoor.EscN Go.Proofs.YthejejeginnbdaaGreatDoor.FdN

abbrev signs : ByteArray := ⟨#[92, 44, 61]⟩
theorem dec0 : Utf8.decode signs 0 = (92, 1) := by decide
theorem dec1 : Utf8.decode signs 1 = (44, 1) := by decide
theorem dec2 : Utf8.decode signs 2 = (61, 1) := by decide

set_option maxHeartbeats 6400000 in
set_option maxRecDepth 1000000 in
/-- Whether there are signs in the escaped text. -/
theorem index_any (t : ByteArray) (hv : Val t.data.toList) (hs : t.size ≤ 8589934592) (w : World) :
    Calls Tryz.prog 46 #[.string t, .string signs] w fun e w' => (∃ i : Int, e = .returned (.int .i64 i) ∧ (0 ≤ i ↔ t.data.toList.any sign = true)) ∧ Below w.heap.size w w' := by
  have HZ := Aside0.mk (size_len t)
  have hszs : signs.size = 3 := rfl
  go_enter Tryz.func46, Tryz.ntmps46
  go_wp2
  go_loopw [5] (fun _ wr => ∃ (pos : Nat) (l2 : List UInt8), pos ≤ t.size ∧ wr.heap[w.heap.size]? = some (.stringIter t pos) ∧ Aside0 (t.data.toList.drop pos = l2) ∧ Aside0 (Val l2) ∧ Aside0 (t.data.toList.any sign = l2.any sign) ∧ Aside0 (Below w.heap.size w wr)) (fun _ wr => t.size - wr.iterPos w.heap.size)
  case atStart =>
    exact ⟨0, t.data.toList, Nat.zero_le _, World.iter_heap w t 0, ⟨rfl⟩, ⟨hv⟩, ⟨rfl⟩, ⟨below_alloc (Below.refl _ _) _⟩⟩
  case round =>
    clear hv
    obtain ⟨pos, l2, hpl, hit, HD, HV, HA, HB⟩ := hrel
    have hsz : w.heap.size < wr.heap.size := (Array.getElem?_eq_some_iff.1 hit).1
    cases l2 with
    | nil =>
      have hp : ¬ pos < t.size := by
        have h1 := HD.out
        have h2 := HZ.out
        have h3 := congrArg List.length h1
        rw [List.length_drop] at h3
        simp only [List.length_nil] at h3
        omega
      have hnx : ∀ ty, (Instr.next (.pointer (some ⟨w.heap.size, 0, none⟩)) true ty).run Tryz.prog wr = _ := fun ty => Lib.run_next_end_at wr w.heap.size t pos ty hit hp
      go_wp2
      go_ret
      exact ⟨⟨-1, rfl, by rw [HA.out]; simp⟩, HB.out⟩
    | cons c r =>
      have hp : pos < t.size := by
        have h1 := HD.out
        have h2 := HZ.out
        have h3 := congrArg List.length h1
        rw [List.length_drop] at h3
        simp only [List.length_cons] at h3
        omega
      have hd := decode_drop t pos hpl
      rw [HD.out] at hd
      by_cases hc : sign c = true
      · rw [EscN.decode_ascii _ (sign_low hc)] at hd
        have hnx := fun ty => Lib.run_next_any_at (P := Tryz.prog) wr w.heap.size t pos ty hit hp
        rw [hd] at hnx
        simp only at hnx
        have HYES : Aside0 (t.data.toList.any sign = true) := ⟨by rw [HA.out, List.any_cons, hc]; rfl⟩
        generalize hW : wr.iterAt w.heap.size t (pos + 1) = W at hnx
        have HBW : Aside0 (Below w.heap.size w W) := ⟨by rw [← hW]; exact Lib.below_iterAt HB.out (Nat.le_refl _) t (pos + 1)⟩
        have hwz := HBW.out.size
        have n0 := fun ty => Lib.run_next_any_at (P := Tryz.prog) (W.iter signs 0) W.heap.size signs 0 ty (World.iter_heap W signs 0) (by decide)
        rw [dec0] at n0
        have g1 := Lib.iterAt_heap (W.iter signs 0) W.heap.size signs 0 (0 + 1) (World.iter_heap W signs 0)
        have b1 := Lib.below_iterAt (below_alloc HBW.out (.stringIter signs 0)) (k := W.heap.size) (by omega) signs (0 + 1)
        have b1' : Below w.heap.size w ((W.iter signs 0).iterAt W.heap.size signs (0 + 1)) := b1
        simp only at n0
        have HB1 := Aside0.mk b1'
        have HN0 := Aside0.mk n0
        generalize hW1 : (W.iter signs 0).iterAt W.heap.size signs (0 + 1) = W1 at n0 g1 HB1
        have n1 := fun ty => Lib.run_next_any_at (P := Tryz.prog) W1 W.heap.size signs 1 ty g1 (by decide)
        rw [dec1] at n1
        have g2 := Lib.iterAt_heap W1 W.heap.size signs 1 (1 + 1) g1
        have HB2 := Aside0.mk (Lib.below_iterAt HB1.out (k := W.heap.size) (by omega) signs (1 + 1))
        simp only at n1
        generalize hW2 : W1.iterAt W.heap.size signs (1 + 1) = W2 at n1 g2 HB2
        have n2 := fun ty => Lib.run_next_any_at (P := Tryz.prog) W2 W.heap.size signs 2 ty g2 (by decide)
        rw [dec2] at n2
        have HB3 := Aside0.mk (Lib.below_iterAt HB2.out (k := W.heap.size) (by omega) signs (2 + 1))
        simp only at n2
        generalize hW3 : W2.iterAt W.heap.size signs (2 + 1) = W3 at n2 HB3
        clear hd hit HN0 b1 b1' hW hW1 hW2 hW3 HD HV HA
        rcases sign_cases hc with rfl | rfl | rfl
        · simp only [show (92 : UInt8).toNat = 92 from rfl] at hnx
          clear hc n1 n2 g1 g2
          go_wp2
          refine wp_loop_rounds 1 ?_
          rw [rounds_succ]
          go_wp2
          go_ret
          exact ⟨⟨(pos : Int), rfl, by rw [HYES.out]; simp⟩, HB1.out⟩
        · simp only [show (44 : UInt8).toNat = 44 from rfl] at hnx
          clear hc n2 g1 g2
          go_wp2
          refine wp_loop_rounds 2 ?_
          rw [rounds_succ]
          go_wp2
          rw [rounds_succ]
          go_wp2
          go_ret
          exact ⟨⟨(pos : Int), rfl, by rw [HYES.out]; simp⟩, HB2.out⟩
        · simp only [show (61 : UInt8).toNat = 61 from rfl] at hnx
          clear hc g1 g2
          go_wp2
          refine wp_loop_rounds 3 ?_
          rw [rounds_succ]
          go_wp2
          rw [rounds_succ]
          go_wp2
          rw [rounds_succ]
          go_wp2
          go_ret
          exact ⟨⟨(pos : Int), rfl, by rw [HYES.out]; simp⟩, HB3.out⟩
      · obtain ⟨q, n, hq, hn1, hnl, q1, q2, q3, q4, hen, hval, hns⟩ := step_val HV.out hc
        have HQ := Aside0.mk hq
        rw [hq] at hd
        have hnx := fun ty => Lib.run_next_any_at (P := Tryz.prog) wr w.heap.size t pos ty hit hp
        rw [hd] at hnx
        simp only at hnx
        have hposn : pos + n ≤ t.size := by
          have h1 := congrArg List.length HD.out
          have h2 := HZ.out
          rw [List.length_drop] at h1
          omega
        have hi1 := Lib.iterAt_heap wr w.heap.size t pos (pos + n) hit
        have hb1 := Lib.below_iterAt HB.out (Nat.le_refl _) t (pos + n)
        generalize wr.iterAt w.heap.size t (pos + n) = W at hnx hi1 hb1
        have hwlt : w.heap.size < W.heap.size := (Array.getElem?_eq_some_iff.1 hi1).1
        have g0 := World.iter_heap W signs 0
        have j0 : (W.iter signs 0).heap[w.heap.size]? = some (.stringIter t (pos + n)) := by
          show (W.heap.push (Obj.stringIter signs 0))[w.heap.size]? = _
          rw [Array.getElem?_push_lt hwlt]
          rw [Array.getElem?_eq_getElem hwlt] at hi1
          exact hi1
        have b0 : Below w.heap.size w (W.iter signs 0) := below_alloc hb1 _
        have n0 := fun ty => Lib.run_next_any_at (P := Tryz.prog) (W.iter signs 0) W.heap.size signs 0 ty g0 (by decide)
        rw [dec0] at n0
        have g1 := Lib.iterAt_heap (W.iter signs 0) W.heap.size signs 0 (0 + 1) g0
        have j1 := (Lib.iterAt_other (W.iter signs 0) W.heap.size w.heap.size signs (0 + 1) (by omega)).trans j0
        have b1 := Lib.below_iterAt b0 (k := W.heap.size) (by omega) signs (0 + 1)
        simp only at n0
        generalize (W.iter signs 0).iterAt W.heap.size signs (0 + 1) = W1 at n0 g1 j1 b1
        have n1 := fun ty => Lib.run_next_any_at (P := Tryz.prog) W1 W.heap.size signs 1 ty g1 (by decide)
        rw [dec1] at n1
        have g2 := Lib.iterAt_heap W1 W.heap.size signs 1 (1 + 1) g1
        have j2 := (Lib.iterAt_other W1 W.heap.size w.heap.size signs (1 + 1) (by omega)).trans j1
        have b2 := Lib.below_iterAt b1 (k := W.heap.size) (by omega) signs (1 + 1)
        simp only at n1
        generalize W1.iterAt W.heap.size signs (1 + 1) = W2 at n1 g2 j2 b2
        have n2 := fun ty => Lib.run_next_any_at (P := Tryz.prog) W2 W.heap.size signs 2 ty g2 (by decide)
        rw [dec2] at n2
        have g3 := Lib.iterAt_heap W2 W.heap.size signs 2 (2 + 1) g2
        have j3 := (Lib.iterAt_other W2 W.heap.size w.heap.size signs (2 + 1) (by omega)).trans j2
        have b3 := Lib.below_iterAt b2 (k := W.heap.size) (by omega) signs (2 + 1)
        simp only at n2
        generalize W2.iterAt W.heap.size signs (2 + 1) = W3 at n2 g3 j3 b3
        have n3 := fun ty => Lib.run_next_end_at (P := Tryz.prog) W3 W.heap.size signs 3 ty g3 (by decide)
        have HJ := Aside0.mk j3
        have HB3 := Aside0.mk b3
        have HA2 : Aside0 (t.data.toList.any sign = ((c :: r).drop n).any sign) := ⟨by rw [HA.out]; exact any_drop hns⟩
        have HD2 : Aside0 (t.data.toList.drop (pos + n) = (c :: r).drop n) := ⟨by rw [← HD.out, List.drop_drop]⟩
        have HV2 := Aside0.mk hval
        have t1 : ((q : Int) == 92) = false := beq_eq_false_iff_ne.2 (by omega)
        have t2 : ((q : Int) == 44) = false := beq_eq_false_iff_ne.2 (by omega)
        have t3 : ((q : Int) == 61) = false := beq_eq_false_iff_ne.2 (by omega)
        have u1 : (q = 92) = False := eq_false q1
        have u2 : (q = 44) = False := eq_false q2
        have u3 : (q = 61) = False := eq_false q3
        have HIT := Aside0.mk hit
        clear hd hq hen hval hns j0 j1 j2 j3 b0 b1 b2 b3 hb1 hi1 HD HV HA q1 q2 q3 hit
        go_wp2
        refine wp_loop_rounds 4 ?_
        rw [rounds_succ]
        go_wp2
        rw [rounds_succ]
        go_wp2
        rw [rounds_succ]
        go_wp2
        rw [rounds_succ]
        go_wp2
        go_roundw
        case rel => exact ⟨pos + n, (c :: r).drop n, hposn, HJ.out, HD2, HV2, HA2, HB3⟩
        case measure =>
          simp only [World.iterPos, HJ.out, HIT.out]
          omega
set_option maxRecDepth 100000 in
theorem contains_any (t : ByteArray) (hv : Val t.data.toList) (hs : t.size ≤ 8589934592) (w : World) :
    Calls Tryz.prog 39 #[.string t, .string signs] w fun e w' => e = .returned (.bool (t.data.toList.any sign)) ∧ Below w.heap.size w w' := by
  have hI := index_any t hv hs w
  generalize t.data.toList.any sign = x at hI ⊢
  have HI := Aside0.mk hI
  clear hv hs hI
  go_enter Tryz.func39, Tryz.ntmps39
  go_wp2_with fail
  refine (HI.out).mono ?_
  rintro e w1 ⟨⟨i, rfl, hi⟩, hb⟩
  have HB := Aside0.mk hb
  clear hb HI
  cases x
  · have t1 : (0 ≤ i) = False := eq_false (fun h => by have := hi.1 h; cases this)
    clear hi
    go_wp2
    go_ret
    exact ⟨by first | rfl | simp [t1], HB.out⟩
  · have t1 : (0 ≤ i) = True := eq_true (hi.2 rfl)
    clear hi
    go_wp2
    go_ret
    exact ⟨by first | rfl | simp [t1], HB.out⟩
theorem make_row (n : Nat) (hn : n ≤ 8589934592) : ∃ cs0 : Array Value, cs0.size = n ∧ ∀ W, Sem.run Tryz.prog (Instr.makeSlice 58 (.int .i64 0) (.int .i64 (n : Int))) W = .ok (.slice (some ⟨W.heap.size, 0, none⟩) 0 n) (W.alloc (.cells cs0 5)) := by
  obtain ⟨i0, hi, hz0, hz1, hz2⟩ := info_parts (show (Tryz.prog.info? 5).map (fun i => (i.zero, i.size, i.bytes)) = some (some (.int .u8 0), 1, 1) by kernel_rfl)
  refine ⟨madeCells (Value.int .u8 0).cells (n * i0.size), ?_, fun W => ?_⟩
  rotate_left
  · have := run_make (P := Tryz.prog) W 58 5 i0 _ Tryz.underlying58 hi hz0 .i64 .i64 (0 : Int) (n : Int) (by omega) (by omega) (by rw [hz2]; omega) (by omega)
    simp only [Int.toNat_natCast] at this
    exact this
  · rw [size_madeCells, hz1, Nat.mul_one]
theorem new_buffer (A : Option Addr) (n c : Nat) (w : World) : Calls Tryz.prog 40 #[.slice A n c] w fun e w' => e = .returned (.pointer (some ⟨w.heap.size, 0, none⟩)) ∧ w' = w.alloc (.cells #[.slice A n c, .int .i64 0, .int .i8 0] 113) := by
  have hu1 := Tryz.underlying113
  go_enter Tryz.func40, Tryz.ntmps40
  go_wp2
  go_ret
  exact ⟨rfl, rfl⟩
def ToldU (w w' : World) (e : Ending) : Option (List UInt8) → Prop
  | some l => e = .returned (.tuple #[.string ⟨l.toArray⟩, .nilIface])
  | none => ∃ (T : TypeId) (x : Value), e = .returned (.tuple #[.string ⟨#[]⟩, .iface T x])
theorem bool_ne (b : Bool) : (b = true) ∨ (b = false) := by cases b <;> simp
set_option maxHeartbeats 12800000 in
set_option maxRecDepth 1000000 in
/-- A text is unescaped, or it is no escaped one. -/
theorem unescape_any (t : ByteArray) (hv : Val t.data.toList) (hs : t.size ≤ 8589934592) (w : World) :
    Calls Tryz.prog 35 #[.string t] w fun e w' => ToldU w w' e (un t.data.toList) ∧ Below w.heap.size w w' := by
  have mixed : Tryz.prog.follows .mixedOrders = true := by kernel_rfl
  have HC := Aside0.mk (contains_any t hv hs w)
  have HZ := Aside0.mk (size_len t)
  have hu84 := Tryz.underlying99
  have hu86 := Tryz.underlying101
  cases ha : t.data.toList.any sign
  · have hte : Aside0 (un t.data.toList = some t.data.toList) := ⟨un_plain ha⟩
    rw [ha] at HC
    clear ha hv hs
    go_enter Tryz.func35, Tryz.ntmps35
    go_wp2_with (first | (go_at_call 39; refine (HC.out).mono ?_; rintro e w1 ⟨rfl, hb⟩; have HB := Aside0.mk hb; clear hb))
    go_ret2
    exact ⟨by rw [hte.out]; exact rfl, HB.out⟩
  · rw [ha] at HC
    obtain ⟨cs0, hcs, hmk⟩ := make_row t.size hs
    have hu1 := Tryz.underlying113
    clear ha
    go_enter Tryz.func35, Tryz.ntmps35
    go_wp2_with (first
      | (go_at_call 39; refine (HC.out).mono ?_; rintro e w1 ⟨rfl, hb⟩; have HB := Aside0.mk hb; clear hb HC)
      | (go_at_call 40; refine (new_buffer _ _ _ _).mono ?_; rintro e w2 ⟨rfl, rfl⟩))
    obtain ⟨g, hg⟩ : ∃ g, g = w1.heap.size := ⟨_, rfl⟩
    have HG : Aside0 (w.heap.size ≤ g) := ⟨by rw [hg]; exact HB.out.size⟩
    obtain ⟨W, hW⟩ : ∃ W, W = (((w1.alloc (.cells cs0 5)).alloc (.cells #[.slice (some ⟨w1.heap.size, 0, none⟩) 0 t.size, .int .i64 0, .int .i8 0] 113)).iter t 0) := ⟨_, rfl⟩
    have hWs : W.heap.size = g + 3 := by rw [hW, hg]; simp [World.iter]
    have hW0 : W.heap[g]? = some (.cells cs0 5 (0, 0)) := by
      rw [hW, hg]
      exact blk_alloc (blk_alloc (blk_new w1 _) _) _
    have hW1 : W.heap[g + 1]? = some (.cells #[.slice (some ⟨g, 0, none⟩) 0 t.size, .int .i64 0, .int .i8 0] 113 (0, 0)) := by
      rw [hW, hg]
      refine blk_alloc ?_ _
      simpa using blk_new (w1.alloc (.cells cs0 5)) (.cells #[.slice (some ⟨w1.heap.size, 0, none⟩) 0 t.size, .int .i64 0, .int .i8 0] 113)
    have hW2 : W.heap[g + 1 + 1]? = some (.stringIter t 0) := by
      have := World.iter_heap ((w1.alloc (.cells cs0 5)).alloc (.cells #[.slice (some ⟨w1.heap.size, 0, none⟩) 0 t.size, .int .i64 0, .int .i8 0] 113)) t 0
      rw [hW, hg]
      simpa using this
    have HBW : Aside0 (Below w.heap.size w W) := ⟨by rw [hW]; exact below_alloc (below_alloc (below_alloc HB.out _) _) _⟩
    have HBUF : Aside0 (Lib.IsBuffer 113 5 w.heap.size (g + 1) (Lib.byteCells []) W) := ⟨by
      refine ⟨by have := HG.out; omega, _, 0, hW1, ⟨rfl, Or.inr ⟨g, t.size, cs0, rfl, HG.out, hW0, Nat.zero_le _, by unfold maxLen; omega, by rw [hcs, Nat.mul_one], by simp [Lib.byteCells]⟩⟩, by simp [Value.ownBlock]⟩⟩
    simp only [← hg] at *
    rw [← hW]
    clear hW hW0 hW1 hmk hcs hg
    have HV0 := Aside0.mk hv
    clear hv
    go_loopw [5] (fun v wr => ∃ (sl : Bool) (pos : Nat) (acc l2 : List UInt8), v = .bool sl ∧ pos ≤ t.size ∧ wr.heap[g + 1 + 1]? = some (.stringIter t pos) ∧ Aside0 (un t.data.toList = (un (if sl = true then 92 :: l2 else l2)).map (acc ++ ·)) ∧ Aside0 (acc.length ≤ pos) ∧ Aside0 (Val l2) ∧ Aside0 (t.data.toList.drop pos = l2) ∧ Aside0 (Lib.IsBuffer 113 5 w.heap.size (g + 1) (Lib.byteCells acc) wr) ∧ Aside0 (Below w.heap.size w wr)) (fun _ wr => t.size - wr.iterPos (g + 1 + 1))
    case atStart => exact ⟨false, 0, [], t.data.toList, rfl, Nat.zero_le _, hW2, ⟨by rw [if_neg (by simp)]; simp⟩, ⟨Nat.zero_le _⟩, HV0, ⟨rfl⟩, HBUF, HBW⟩
    case round =>
      clear HV0 HBUF HBW hW2 hWs
      obtain ⟨sl, pos, acc, l2, rfl, hpl, hit, HL, HP, HV, HD, HI, HB2⟩ := hrel
      have hsz : g + 1 + 1 < wr.heap.size := (Array.getElem?_eq_some_iff.1 hit).1
      have hgw : w.heap.size ≤ g := HG.out
      have hd := decode_drop t pos hpl
      have HIT := Aside0.mk hit
      have hD := HD.out
      have lenf : (t.data.toList.drop pos).length = t.size - pos := by rw [List.length_drop, HZ.out]
      rw [hD] at lenf hd
      cases l2 with
      | nil =>
        have hp : ¬ pos < t.size := by simp only [List.length_nil] at lenf; omega
        have hnx := fun ty => Lib.run_next_end_at (P := Tryz.prog) wr (g + 1 + 1) t pos ty hit hp
        cases sl
        · have hal : Aside0 (un t.data.toList = some acc) := ⟨by rw [HL.out, if_neg (by simp)]; simp [un]⟩
          clear hd hD lenf
          go_wp2_with (first | (go_at_call 42; refine (Tryz.Buffer_String w.heap.size (g + 1) acc wr HI.out).mono ?_; rintro e W1 ⟨rfl, n, rfl⟩))
          go_ret2
          exact ⟨by rw [hal.out]; exact rfl, pw_below_drewN HB2.out n⟩
        · have hal : Aside0 (un t.data.toList = none) := ⟨by rw [HL.out, if_pos rfl, un_end]; rfl⟩
          clear hd hD lenf
          go_wp2
          go_ret2
          exact ⟨by rw [hal.out]; exact ⟨_, _, rfl⟩, by repeat (first | exact HB2.out | apply below_alloc | apply below_drew1 | apply pw_below_drewN)⟩
      | cons c r =>
        have hp : pos < t.size := by simp only [List.length_cons] at lenf; omega
        by_cases hc : sign c = true
        · have hc8 := sign_low hc
          rw [EscN.decode_ascii _ hc8] at hd
          have hnx := fun ty => Lib.run_next_any_at (P := Tryz.prog) wr (g + 1 + 1) t pos ty hit hp
          rw [hd] at hnx
          simp only at hnx
          have HIT2 := Aside0.mk (Lib.iterAt_heap wr (g + 1 + 1) t pos (pos + 1) hit)
          have HI2 := Aside0.mk (HI.out.iterAt hit (pos + 1))
          have HB3 := Aside0.mk (Lib.below_iterAt HB2.out (k := g + 1 + 1) (by omega) t (pos + 1))
          have hsz2 : w.heap.size ≤ (wr.iterAt (g + 1 + 1) t (pos + 1)).heap.size := by rw [Lib.iterAt_size]; omega
          generalize wr.iterAt (g + 1 + 1) t (pos + 1) = W1 at hnx HIT2 HI2 HB3 hsz2
          have HD2 : Aside0 (t.data.toList.drop (pos + 1) = r) := ⟨by rw [← List.drop_drop, hD]; rfl⟩
          have HV2 : Aside0 (Val r) := ⟨by
            have := (HV.out.head (by simp)).2
            rw [EscN.decode_ascii r hc8] at this
            exact this⟩
          cases sl
          · rw [if_neg (by simp)] at HL
            rcases sign_cases hc with rfl | rfl | rfl
            · simp only [show (92 : UInt8).toNat = 92 from rfl] at hnx
              have HL2 := HL
              clear hd hD lenf hit HD hc hc8 hsz2
              go_wp2
              go_roundw
              case rel => exact ⟨true, pos + 1, acc, r, rfl, by omega, HIT2.out, ⟨by rw [if_pos rfl]; exact HL2.out⟩, ⟨by have := HP.out; omega⟩, HV2, HD2, HI2, HB3⟩
              case measure => simp only [World.iterPos, HIT2.out, HIT.out]; omega
            · simp only [show (44 : UInt8).toNat = 44 from rfl] at hnx
              have hal : Aside0 (un t.data.toList = none) := ⟨by rw [HL.out, un_sign r hc (by decide)]; rfl⟩
              clear hd hD lenf hit HD hc hc8 hsz2
              go_wp2
              go_ret2
              exact ⟨by rw [hal.out]; exact ⟨_, _, rfl⟩, by repeat (first | exact HB3.out | apply below_alloc | apply below_drew1 | apply pw_below_drewN)⟩
            · simp only [show (61 : UInt8).toNat = 61 from rfl] at hnx
              have hal : Aside0 (un t.data.toList = none) := ⟨by rw [HL.out, un_sign r hc (by decide)]; rfl⟩
              clear hd hD lenf hit HD hc hc8 hsz2
              go_wp2
              go_ret2
              exact ⟨by rw [hal.out]; exact ⟨_, _, rfl⟩, by repeat (first | exact HB3.out | apply below_alloc | apply below_drew1 | apply pw_below_drewN)⟩
          · rw [if_pos rfl] at HL
            have HWR := Aside0.mk (Tryz.Buffer_WriteRune_k w.heap.size (g + 1) (Lib.byteCells acc) (c.toNat : Int) (by omega) (by omega) W1 HI2.out hsz2 (Lib.byteCells_one _) (by rw [Lib.byteCells_length]; have := HP.out; omega))
            have HEN := Aside0.mk (enc_ascii hc8)
            have HL2 : Aside0 (un t.data.toList = (un r).map ((acc ++ [c]) ++ ·)) := ⟨by rw [HL.out, un_bs r hc, Option.map_map]; congr 1; funext x; simp⟩
            have fin : ∀ W2 : World, Lib.IsBuffer 113 5 w.heap.size (g + 1) (Lib.byteCells acc ++ Lib.runeCells (c.toNat : Int)) W2 → Lib.IsBuffer 113 5 w.heap.size (g + 1) (Lib.byteCells (acc ++ [c])) W2 := fun W2 h => by
              rw [Lib.byteCells_append, ← HEN.out, Lib.byteCells_encodeRune]; exact h
            have FIN := Aside0.mk fin
            clear hd hD lenf hit HD hsz2 fin
            rcases sign_cases hc with rfl | rfl | rfl
            · simp only [show (92 : UInt8).toNat = 92 from rfl] at hnx HWR
              clear hc hc8
              go_wp2_with (first | (go_at_call 41; refine (HWR.out).mono ?_; rintro e W2 ⟨rfl, h1, b1, k1⟩; have HI3 := Aside0.mk (FIN.out _ h1); have HB4 := Aside0.mk (HB3.out.trans b1); have HIT3 := Aside0.mk (k1.iter HIT2.out (by omega)); clear h1 b1 k1 HWR))
              go_roundw
              case rel => exact ⟨false, pos + 1, acc ++ [92], r, rfl, by omega, HIT3.out, ⟨by rw [if_neg (by simp)]; exact HL2.out⟩, ⟨by rw [List.length_append]; have := HP.out; simp only [List.length_cons, List.length_nil]; omega⟩, HV2, HD2, HI3, HB4⟩
              case measure => simp only [World.iterPos, HIT3.out, HIT.out]; omega
            · simp only [show (44 : UInt8).toNat = 44 from rfl] at hnx HWR
              clear hc hc8
              go_wp2_with (first | (go_at_call 41; refine (HWR.out).mono ?_; rintro e W2 ⟨rfl, h1, b1, k1⟩; have HI3 := Aside0.mk (FIN.out _ h1); have HB4 := Aside0.mk (HB3.out.trans b1); have HIT3 := Aside0.mk (k1.iter HIT2.out (by omega)); clear h1 b1 k1 HWR))
              go_roundw
              case rel => exact ⟨false, pos + 1, acc ++ [44], r, rfl, by omega, HIT3.out, ⟨by rw [if_neg (by simp)]; exact HL2.out⟩, ⟨by rw [List.length_append]; have := HP.out; simp only [List.length_cons, List.length_nil]; omega⟩, HV2, HD2, HI3, HB4⟩
              case measure => simp only [World.iterPos, HIT3.out, HIT.out]; omega
            · simp only [show (61 : UInt8).toNat = 61 from rfl] at hnx HWR
              clear hc hc8
              go_wp2_with (first | (go_at_call 41; refine (HWR.out).mono ?_; rintro e W2 ⟨rfl, h1, b1, k1⟩; have HI3 := Aside0.mk (FIN.out _ h1); have HB4 := Aside0.mk (HB3.out.trans b1); have HIT3 := Aside0.mk (k1.iter HIT2.out (by omega)); clear h1 b1 k1 HWR))
              go_roundw
              case rel => exact ⟨false, pos + 1, acc ++ [61], r, rfl, by omega, HIT3.out, ⟨by rw [if_neg (by simp)]; exact HL2.out⟩, ⟨by rw [List.length_append]; have := HP.out; simp only [List.length_cons, List.length_nil]; omega⟩, HV2, HD2, HI3, HB4⟩
              case measure => simp only [World.iterPos, HIT3.out, HIT.out]; omega
        · obtain ⟨q, n, hq, hn1, hnl, q1, q2, q3, q4, hen, hval, hns⟩ := step_val HV.out hc
          rw [hq] at hd
          have hnx := fun ty => Lib.run_next_any_at (P := Tryz.prog) wr (g + 1 + 1) t pos ty hit hp
          rw [hd] at hnx
          simp only at hnx
          have hposn : pos + n ≤ t.size := by omega
          have HIT2 := Aside0.mk (Lib.iterAt_heap wr (g + 1 + 1) t pos (pos + n) hit)
          have HI2 := Aside0.mk (HI.out.iterAt hit (pos + n))
          have HB3 := Aside0.mk (Lib.below_iterAt HB2.out (k := g + 1 + 1) (by omega) t (pos + n))
          have hsz2 : w.heap.size ≤ (wr.iterAt (g + 1 + 1) t (pos + n)).heap.size := by rw [Lib.iterAt_size]; omega
          generalize wr.iterAt (g + 1 + 1) t (pos + n) = W1 at hnx HIT2 HI2 HB3 hsz2
          have HD2 : Aside0 (t.data.toList.drop (pos + n) = (c :: r).drop n) := ⟨by rw [← List.drop_drop, hD]⟩
          have HV2 := Aside0.mk hval
          have t1 : ((q : Int) == 92) = false := beq_eq_false_iff_ne.2 (by omega)
          have t2 : ((q : Int) == 44) = false := beq_eq_false_iff_ne.2 (by omega)
          have t3 : ((q : Int) == 61) = false := beq_eq_false_iff_ne.2 (by omega)
          have u1 : (q = 92) = False := eq_false q1
          have u2 : (q = 44) = False := eq_false q2
          have u3 : (q = 61) = False := eq_false q3
          cases sl
          · rw [if_neg (by simp)] at HL
            have hlen : (Lib.encodeRune (q : Int)).length = n := by rw [hen, List.length_take]; omega
            have HLEN := Aside0.mk hlen
            have HWR := Aside0.mk (Tryz.Buffer_WriteRune_k w.heap.size (g + 1) (Lib.byteCells acc) (q : Int) (by omega) (by omega) W1 HI2.out hsz2 (Lib.byteCells_one _) (by rw [Lib.byteCells_length]; have := HP.out; omega))
            have HL2 : Aside0 (un t.data.toList = (un ((c :: r).drop n)).map ((acc ++ Lib.encodeRune (q : Int)) ++ ·)) := ⟨by
              have e := un_app ((c :: r).take n) ((c :: r).drop n) hns
              rw [List.take_append_drop] at e
              rw [HL.out, e, hen, Option.map_map]; congr 1; funext x; simp⟩
            clear hd hD lenf hit HD hq hen hval hns hlen hsz2 q1 q2 q3 hc
            go_wp2_with (first | (go_at_call 41; refine (HWR.out).mono ?_; rintro e W2 ⟨rfl, h1, b1, k1⟩; have HI3 := Aside0.mk h1; have HB4 := Aside0.mk (HB3.out.trans b1); have HIT3 := Aside0.mk (k1.iter HIT2.out (by omega)); clear h1 b1 k1 HWR))
            go_roundw
            case rel => exact ⟨false, pos + n, acc ++ Lib.encodeRune (q : Int), (c :: r).drop n, rfl, hposn, HIT3.out, ⟨by rw [if_neg (by simp)]; exact HL2.out⟩, ⟨by rw [List.length_append, HLEN.out]; have := HP.out; omega⟩, HV2, HD2, ⟨by rw [Lib.byteCells_append, Lib.byteCells_encodeRune]; exact HI3.out⟩, HB4⟩
            case measure => simp only [World.iterPos, HIT3.out, HIT.out]; omega
          · rw [if_pos rfl] at HL
            have hal : Aside0 (un t.data.toList = none) := ⟨by rw [HL.out, un_bad r hc]; rfl⟩
            have hcv : ∀ (W2 : World) (b : Nat), W2.heap[b]? = some (.cells #[.int .i32 92, .int .i32 (q : Int)] 21 (0, 0)) → (convert 45 9 (.slice (some ⟨b, 0, none⟩) 2 2)).run Tryz.prog W2 = .ok (.string (runesBytes [92, (q : Int)])) W2 := fun W2 b hb => by
              have := run_convert_runes (P := Tryz.prog) W2 45 9 21 ⟨b, 0, none⟩ 2 2 [92, (q : Int)] (Nat.le_refl _) Tryz.underlying45 Tryz.underlying21 Tryz.underlying9 (fun j hj => by
                have h2 := blk_cell hb j
                rw [Addr.add_lit, Nat.zero_add]
                refine h2.trans ?_
                match j, hj with
                | 0, _ => rfl
                | 1, _ => rfl)
              exact this
            have hva := hcv (W1.drew.alloc (.cells #[.int .i32 92, .int .i32 (q : Int)] 21)) W1.heap.size (blk_new W1.drew _)
            have hvb := hcv ((W1.alloc (.cells #[.int .i32 92, .int .i32 (q : Int)] 21)).drew) W1.heap.size (blk_new W1 _)
            clear hcv
            generalize runesBytes [92, (q : Int)] = rb at hva hvb
            clear hd hD lenf hit HD hq hen hval hns hsz2 q1 q2 q3 hc
            go_wp2
            go_region
            all_goals go_wp2
            all_goals go_ret2
            all_goals exact ⟨by rw [hal.out]; exact ⟨_, _, rfl⟩, by repeat (first | exact HB3.out | apply below_alloc | apply below_drew1 | apply pw_below_drewN)⟩
end Go.Proofs.YthejejeginnbdaaGreatDoor.FdU
