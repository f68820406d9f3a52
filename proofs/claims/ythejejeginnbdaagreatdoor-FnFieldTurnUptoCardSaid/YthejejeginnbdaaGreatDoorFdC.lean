/- A piece of a selector cut at its operator: the walk, at every text. -/
import Derived.Test.YthejejeginnbdaaGreatDoorFdN
import Derived.Test.YthejejeginnbdaaGreatDoorPFnFieldTurnx
import Derived.Test.YthejejeginnbdaaGreatDoorTxt
import Derived.Test.YthejejeginnbdaaGreatDoorSmall
import Derived.Lib.DecodeN
import Derived.WalkKit
import Derived.WalkMore
import Derived.BigCall
set_option linter.unusedVariables false
set_option linter.unusedSimpArgs false
namespace Go.Proofs.YthejejeginnbdaaGreatDoor.FdC
open Go Go.RowKit Go.Proofs.YthejejeginnbdaaGreatDoorW.PrintWords Go.Proofs.YthejejeginnbdaaGreatDoor.Txt Go.Proofs.YthejejeginnbdaaGreatDoor Go.Proofs.YthejejeginnbdaaGreatDoor.FdN Go.Proofs.YthejejeginnbdaaGreatDoor.PFnFieldTurn

/-- Whether a text begins with another one. -/
def begins (p l : List UInt8) : Bool := l.take p.length == p
theorem prefix_any (s p : ByteArray) (w : World) : Calls Tryz.prog 38 #[.string s, .string p] w fun e w' => e = .returned (.bool (begins p.data.toList s.data.toList)) ∧ Drawn0 w w' := by
  refine strings_HasPrefix.calls s p _ w ?_
  have h1 := size_len s
  have h2 := size_len p
  unfold strings_HasPrefix.f stringslite_HasPrefix.f
  by_cases h : (s.size : Int) ≥ (p.size : Int)
  · rw [if_pos h, if_pos (by omega), if_pos h, Option.bind_some]
    congr 1
    rw [toL, toL, data_extract]
    unfold begins
    simp only [Int.toNat_natCast, List.drop_zero, Nat.sub_zero, h2]
  · rw [if_neg h, Option.bind_some]
    congr 1
    unfold begins
    refine (beq_eq_false_iff_ne.2 fun e => ?_).symm
    have := congrArg List.length e
    rw [List.length_take] at this
    omega
theorem begins_no {p l : List UInt8} (h : l.take p.length ≠ p) : begins p l = false := beq_eq_false_iff_ne.2 h
theorem begins_yes {p l : List UInt8} (h : l.take p.length = p) : begins p l = true := beq_iff_eq.2 h
theorem dec_width (s : ByteArray) (p : Nat) (h : p < s.size) : 1 ≤ (Utf8.decode s p).2 ∧ p + (Utf8.decode s p).2 ≤ s.size ∧ ∀ c ∈ (s.data.toList.drop (p + 1)).take ((Utf8.decode s p).2 - 1), 128 ≤ c.toNat := by
  have hl := size_len s
  have key : 1 ≤ (Utf8.decode s p).2 ∧ p + (Utf8.decode s p).2 ≤ s.size ∧ ∀ j, 1 ≤ j → j < (Utf8.decode s p).2 → 128 ≤ (s.get! (p + j)).toNat := by
    rw [Lib.decode_at]
    generalize (s.get! p).toNat = b0
    generalize e1 : (s.get! (p + 1)).toNat = b1
    generalize e2 : (s.get! (p + 2)).toNat = b2
    generalize e3 : (s.get! (p + 3)).toNat = b3
    have hj : ∀ w, w ≤ 4 → (1 < w → 128 ≤ b1) → (2 < w → 128 ≤ b2) → (3 < w → 128 ≤ b3) → ∀ j, 1 ≤ j → j < w → 128 ≤ (s.get! (p + j)).toNat := by
      intro w hw h1 h2 h3 j hj1 hj2
      have : j = 1 ∨ j = 2 ∨ j = 3 := by omega
      rcases this with rfl | rfl | rfl
      · rw [e1]; exact h1 (by omega)
      · rw [e2]; exact h2 (by omega)
      · rw [e3]; exact h3 (by omega)
    unfold Lib.decodeN
    repeat' split
    all_goals refine ⟨by simp, by simp; omega, hj _ (by simp) (by simp; try omega) (by simp; try omega) (by simp; try omega)⟩
  obtain ⟨k1, k2, k3⟩ := key
  refine ⟨k1, k2, fun c hc => ?_⟩
  obtain ⟨j, hj, e⟩ := List.getElem_of_mem hc
  rw [List.length_take, List.length_drop] at hj
  rw [List.getElem_take, List.getElem_drop] at e
  have := k3 (1 + j) (by omega) (by omega)
  have e2 : s.get! (p + (1 + j)) = s.data.toList[p + 1 + j]'(by omega) := by
    show s.data[p + (1 + j)]! = _
    rw [getElem!_pos s.data (p + (1 + j)) (by show p + (1 + j) < s.size; omega)]
    simp [Nat.add_assoc]
  rw [e2, e] at this
  exact this
def ToldC (w w' : World) (e : Ending) : Option (List UInt8 × List UInt8 × List UInt8) → Prop
  | none => e = .returned (.tuple #[.string ⟨#[]⟩, .string ⟨#[]⟩, .string ⟨#[]⟩, .bool false])
  | some q => e = .returned (.tuple #[.string ⟨q.1.toArray⟩, .string ⟨q.2.1.toArray⟩, .string ⟨q.2.2.toArray⟩, .bool true])
theorem ex_take (s : ByteArray) (n : Nat) : s.extract 0 n = ⟨(s.data.toList.take n).toArray⟩ := ext (by rw [data_extract]; simp)
theorem ex_drop (s : ByteArray) (n : Nat) : s.extract n s.size = ⟨(s.data.toList.drop n).toArray⟩ := ext (by rw [data_extract, List.take_of_length_le (by rw [List.length_drop, size_len]; exact Nat.le_refl _)])
set_option maxHeartbeats 12800000 in
set_option maxRecDepth 1000000 in
theorem split_any (t : ByteArray) (hs : t.size ≤ 8589934592) (w : World) :
    Calls Tryz.prog 34 #[.string t] w fun e w' => ToldC w w' e (cutOp t.data.toList) ∧ Below w.heap.size w w' := by
  have mixed : Tryz.prog.follows .mixedOrders = true := by kernel_rfl
  have HZ := Aside0.mk (size_len t)
  go_enter Tryz.func34, Tryz.ntmps34
  go_wp2
  go_loopw [6] (fun _ wr => ∃ (pos : Nat), pos ≤ t.size ∧ wr.heap[w.heap.size]? = some (.stringIter t pos) ∧ Aside0 (cutOp t.data.toList = (cutOp (t.data.toList.drop pos)).map fun q => (t.data.toList.take pos ++ q.1, q.2)) ∧ Aside0 (Below w.heap.size w wr)) (fun _ wr => t.size - wr.iterPos w.heap.size)
  case atStart =>
    exact ⟨0, Nat.zero_le _, World.iter_heap w t 0, ⟨by simp⟩, ⟨below_alloc (Below.refl _ _) _⟩⟩
  case round =>
    obtain ⟨pos, hpl, hit, HC, HB⟩ := hrel
    have hsz : w.heap.size < wr.heap.size := (Array.getElem?_eq_some_iff.1 hit).1
    by_cases hp : pos < t.size
    · obtain ⟨k1, k2, k3⟩ := dec_width t pos hp
      have hnx := fun ty => Lib.run_next_any_at (P := Tryz.prog) wr w.heap.size t pos ty hit hp
      generalize (Utf8.decode t pos).1 = q at hnx
      generalize (Utf8.decode t pos).2 = n at hnx k1 k2 k3
      have HIT := Aside0.mk hit
      have HIT2 := Aside0.mk (Lib.iterAt_heap wr w.heap.size t pos (pos + n) hit)
      have HBW := Aside0.mk (Lib.below_iterAt HB.out (Nat.le_refl _) t (pos + n))
      have HKN := Aside0.mk (show 1 ≤ n ∧ pos + n ≤ t.size from ⟨k1, k2⟩)
      generalize wr.iterAt w.heap.size t (pos + n) = W at hnx HIT2 HBW
      have z0 : w.heap.size < W.heap.size := (Array.getElem?_eq_some_iff.1 HIT2.out).1
      have p1 : (0 ≤ (pos : Int)) = True := eq_true (by omega)
      have p2 : ((pos : Int) ≤ (t.size : Int)) = True := eq_true (by omega)
      have p3 : pos ≤ t.size := hpl
      obtain ⟨l, hl⟩ : ∃ l, l = t.data.toList.drop pos := ⟨_, rfl⟩
      have hr : t.extract pos t.size = ⟨l.toArray⟩ := by rw [ex_drop, hl]
      have HR := Aside0.mk hr
      have hlen : l.length = t.size - pos := by rw [hl, List.length_drop, HZ.out]
      rw [← hl] at HC
      have HX := Aside0.mk (fun (p : ByteArray) w => prefix_any ⟨l.toArray⟩ p w)
      obtain ⟨BC, hBC⟩ : ∃ BC, BC = Obj.cells #[.string ⟨#[33, 61]⟩, .string ⟨#[61, 61]⟩, .string ⟨#[61]⟩] 9 (0, 0) := ⟨_, rfl⟩
      rcases opAt_cases l with ⟨u, e, hq⟩ | ⟨u, e, hq⟩ | ⟨u, e, hu, hq⟩ | ⟨hq, hn2, hn1⟩
      · have hle : 2 ≤ l.length := by rw [e]; simp
        have b0 : begins [33, 61] l = true := begins_yes (by rw [e]; rfl)
        have H0 := Aside0.mk (fun w => prefix_any ⟨l.toArray⟩ ⟨#[33, 61]⟩ w)
        replace H0 : Aside0 (∀ w, Calls Tryz.prog 38 #[.string ⟨l.toArray⟩, .string ⟨#[33, 61]⟩] w fun e w' => e = .returned (.bool true) ∧ Drawn0 w w') := ⟨fun w => by rw [← b0]; exact H0.out w⟩
        have HR2 : Aside0 (cutOp t.data.toList = some (t.data.toList.take pos, [33, 61], t.data.toList.drop (pos + 2))) := ⟨by
          rw [HC.out, show cutOp l = some ([], [33, 61], l.drop 2) by (rw [e] at hq ⊢; rw [cutOp, hq]; rfl), hl, List.drop_drop]; simp⟩
        have w1 : wrap64 ((pos : Int) + 2) = ((pos + 2 : Nat) : Int) := by rw [Small.w64 _ (by omega) (by omega)]; rfl
        have q1 : (0 ≤ ((pos + 2 : Nat) : Int)) = True := eq_true (by omega)
        have q2 : (((pos + 2 : Nat) : Int) ≤ (t.size : Int)) = True := eq_true (by omega)
        have q3 : pos + 2 ≤ t.size := by omega
        have HT1 := Aside0.mk (ex_take t pos)
        have HT2 := Aside0.mk (ex_drop t (pos + 2))
        clear e hq hle HC k3 hl k1 k2 hlen hr b0
        go_wp2
        rw [HR.out]
        refine wp_loop_rounds 1 ?_
        rw [rounds_succ]
        go_wp2_with (first | (go_at_call 38; (with_reducible refine (H0.out _).mono ?_); rintro e w1 ⟨rfl, hd⟩; obtain ⟨n0, rfl⟩ := hd))
        go_quiet (fail)
        all_goals go_wp2
        all_goals refine bodyPost_ret (v := .tuple #[.string (t.extract 0 pos), .string ⟨#[33, 61]⟩, .string (t.extract (pos + 2) t.size), .bool true]) (by simp [results, Tryz.results34, go_sem]) rfl ⟨by rw [HR2.out, HT1.out, HT2.out]; exact rfl, by repeat (first | (with_reducible exact HBW.out) | apply below_alloc | apply pw_below_drewN | apply below_drew1)⟩
      · have hle : 2 ≤ l.length := by rw [e]; simp
        have b0 : begins [33, 61] l = false := begins_no (by rw [e]; intro h; cases h)
        have H0 := Aside0.mk (fun w => prefix_any ⟨l.toArray⟩ ⟨#[33, 61]⟩ w)
        replace H0 : Aside0 (∀ w, Calls Tryz.prog 38 #[.string ⟨l.toArray⟩, .string ⟨#[33, 61]⟩] w fun e w' => e = .returned (.bool false) ∧ Drawn0 w w') := ⟨fun w => by rw [← b0]; exact H0.out w⟩
        have b1 : begins [61, 61] l = true := begins_yes (by rw [e]; rfl)
        have H1 := Aside0.mk (fun w => prefix_any ⟨l.toArray⟩ ⟨#[61, 61]⟩ w)
        replace H1 : Aside0 (∀ w, Calls Tryz.prog 38 #[.string ⟨l.toArray⟩, .string ⟨#[61, 61]⟩] w fun e w' => e = .returned (.bool true) ∧ Drawn0 w w') := ⟨fun w => by rw [← b1]; exact H1.out w⟩
        have HR2 : Aside0 (cutOp t.data.toList = some (t.data.toList.take pos, [61, 61], t.data.toList.drop (pos + 2))) := ⟨by
          rw [HC.out, show cutOp l = some ([], [61, 61], l.drop 2) by (rw [e] at hq ⊢; rw [cutOp, hq]; rfl), hl, List.drop_drop]; simp⟩
        have w1 : wrap64 ((pos : Int) + 2) = ((pos + 2 : Nat) : Int) := by rw [Small.w64 _ (by omega) (by omega)]; rfl
        have q1 : (0 ≤ ((pos + 2 : Nat) : Int)) = True := eq_true (by omega)
        have q2 : (((pos + 2 : Nat) : Int) ≤ (t.size : Int)) = True := eq_true (by omega)
        have q3 : pos + 2 ≤ t.size := by omega
        have HT1 := Aside0.mk (ex_take t pos)
        have HT2 := Aside0.mk (ex_drop t (pos + 2))
        clear e hq hle HC k3 hl k1 k2 hlen hr b0 b1
        go_wp2
        rw [HR.out]
        refine wp_loop_rounds 2 ?_
        rw [rounds_succ]
        go_wp2_with (first | (go_at_call 38; (with_reducible refine (H0.out _).mono ?_); rintro e w1 ⟨rfl, hd⟩; obtain ⟨n0, rfl⟩ := hd))
        rw [rounds_succ]
        go_wp2_with (first | (go_at_call 38; (with_reducible refine (H1.out _).mono ?_); rintro e w2 ⟨rfl, hd⟩; obtain ⟨n1, rfl⟩ := hd))
        go_quiet (fail)
        all_goals go_wp2
        all_goals refine bodyPost_ret (v := .tuple #[.string (t.extract 0 pos), .string ⟨#[61, 61]⟩, .string (t.extract (pos + 2) t.size), .bool true]) (by simp [results, Tryz.results34, go_sem]) rfl ⟨by rw [HR2.out, HT1.out, HT2.out]; exact rfl, by repeat (first | (with_reducible exact HBW.out) | apply below_alloc | apply pw_below_drewN | apply below_drew1)⟩
      · have hle : 1 ≤ l.length := by rw [e]; simp
        have b0 : begins [33, 61] l = false := begins_no (by rw [e]; intro h; cases u with | nil => cases h | cons d v => cases h)
        have H0 := Aside0.mk (fun w => prefix_any ⟨l.toArray⟩ ⟨#[33, 61]⟩ w)
        replace H0 : Aside0 (∀ w, Calls Tryz.prog 38 #[.string ⟨l.toArray⟩, .string ⟨#[33, 61]⟩] w fun e w' => e = .returned (.bool false) ∧ Drawn0 w w') := ⟨fun w => by rw [← b0]; exact H0.out w⟩
        have b1 : begins [61, 61] l = false := begins_no (by rw [e]; intro h; cases u with | nil => cases h | cons d v => (injection h with _ h; injection h with h _; exact hu (by rw [h]; rfl)))
        have H1 := Aside0.mk (fun w => prefix_any ⟨l.toArray⟩ ⟨#[61, 61]⟩ w)
        replace H1 : Aside0 (∀ w, Calls Tryz.prog 38 #[.string ⟨l.toArray⟩, .string ⟨#[61, 61]⟩] w fun e w' => e = .returned (.bool false) ∧ Drawn0 w w') := ⟨fun w => by rw [← b1]; exact H1.out w⟩
        have b2 : begins [61] l = true := begins_yes (by rw [e]; rfl)
        have H2 := Aside0.mk (fun w => prefix_any ⟨l.toArray⟩ ⟨#[61]⟩ w)
        replace H2 : Aside0 (∀ w, Calls Tryz.prog 38 #[.string ⟨l.toArray⟩, .string ⟨#[61]⟩] w fun e w' => e = .returned (.bool true) ∧ Drawn0 w w') := ⟨fun w => by rw [← b2]; exact H2.out w⟩
        have HR2 : Aside0 (cutOp t.data.toList = some (t.data.toList.take pos, [61], t.data.toList.drop (pos + 1))) := ⟨by
          rw [HC.out, show cutOp l = some ([], [61], l.drop 1) by (rw [e] at hq ⊢; rw [cutOp, hq]; rfl), hl, List.drop_drop]; simp⟩
        have w1 : wrap64 ((pos : Int) + 1) = ((pos + 1 : Nat) : Int) := by rw [Small.w64 _ (by omega) (by omega)]; rfl
        have q1 : (0 ≤ ((pos + 1 : Nat) : Int)) = True := eq_true (by omega)
        have q2 : (((pos + 1 : Nat) : Int) ≤ (t.size : Int)) = True := eq_true (by omega)
        have q3 : pos + 1 ≤ t.size := by omega
        have HT1 := Aside0.mk (ex_take t pos)
        have HT2 := Aside0.mk (ex_drop t (pos + 1))
        clear e hq hle HC k3 hl k1 k2 hlen hr b0 b1 b2 hu
        go_wp2
        rw [HR.out]
        refine wp_loop_rounds 3 ?_
        rw [rounds_succ]
        go_wp2_with (first | (go_at_call 38; (with_reducible refine (H0.out _).mono ?_); rintro e w1 ⟨rfl, hd⟩; obtain ⟨n0, rfl⟩ := hd))
        rw [rounds_succ]
        go_wp2_with (first | (go_at_call 38; (with_reducible refine (H1.out _).mono ?_); rintro e w2 ⟨rfl, hd⟩; obtain ⟨n1, rfl⟩ := hd))
        rw [rounds_succ]
        go_wp2_with (first | (go_at_call 38; (with_reducible refine (H2.out _).mono ?_); rintro e w3 ⟨rfl, hd⟩; obtain ⟨n2, rfl⟩ := hd))
        go_quiet (fail)
        all_goals go_wp2
        all_goals refine bodyPost_ret (v := .tuple #[.string (t.extract 0 pos), .string ⟨#[61]⟩, .string (t.extract (pos + 1) t.size), .bool true]) (by simp [results, Tryz.results34, go_sem]) rfl ⟨by rw [HR2.out, HT1.out, HT2.out]; exact rfl, by repeat (first | (with_reducible exact HBW.out) | apply below_alloc | apply pw_below_drewN | apply below_drew1)⟩
      · have b1 : Aside0 (begins [33, 61] l = false) := ⟨begins_no hn2⟩
        have b2 : Aside0 (begins [61, 61] l = false) := ⟨begins_no (fun h => hn1 (by have := congrArg (List.take 1) h; rw [List.take_take] at this; exact this))⟩
        have b3 : Aside0 (begins [61] l = false) := ⟨begins_no hn1⟩
        have HC2 : Aside0 (cutOp t.data.toList = (cutOp (t.data.toList.drop (pos + n))).map fun q => (t.data.toList.take (pos + n) ++ q.1, q.2)) := ⟨by
          have hne : 0 < l.length := by omega
          obtain ⟨c, r, e⟩ := EscN.len1 l hne
          have hd1 : t.data.toList.drop (pos + 1) = r := by rw [← List.drop_drop, ← hl, e]; rfl
          rw [hd1] at k3
          have e2 : r = r.take (n - 1) ++ r.drop (n - 1) := (List.take_append_drop _ _).symm
          have e3 : t.data.toList.drop (pos + n) = r.drop (n - 1) := by
            rw [show pos + n = pos + 1 + (n - 1) by omega, ← List.drop_drop, hd1]
          have e4 : t.data.toList.take (pos + n) = t.data.toList.take pos ++ c :: r.take (n - 1) := by
            rw [List.take_add, ← hl, e, show n = (n - 1) + 1 by omega, List.take_succ_cons]; rfl
          rw [HC.out, e, cut_skip (by rw [← e]; exact hq), e3, e4]
          have e5 := cut_high (r.take (n - 1)) (r.drop (n - 1)) k3
          rw [List.take_append_drop] at e5
          rw [e5, Option.map_map, Option.map_map]
          congr 1; funext q; simp⟩
        have H0 := Aside0.mk (fun w => prefix_any ⟨l.toArray⟩ ⟨#[33, 61]⟩ w)
        replace H0 : Aside0 (∀ w, Calls Tryz.prog 38 #[.string ⟨l.toArray⟩, .string ⟨#[33, 61]⟩] w fun e w' => e = .returned (.bool false) ∧ Drawn0 w w') := ⟨fun w => by rw [← b1.out]; exact H0.out w⟩
        have H1 := Aside0.mk (fun w => prefix_any ⟨l.toArray⟩ ⟨#[61, 61]⟩ w)
        replace H1 : Aside0 (∀ w, Calls Tryz.prog 38 #[.string ⟨l.toArray⟩, .string ⟨#[61, 61]⟩] w fun e w' => e = .returned (.bool false) ∧ Drawn0 w w') := ⟨fun w => by rw [← b2.out]; exact H1.out w⟩
        have H2 := Aside0.mk (fun w => prefix_any ⟨l.toArray⟩ ⟨#[61]⟩ w)
        replace H2 : Aside0 (∀ w, Calls Tryz.prog 38 #[.string ⟨l.toArray⟩, .string ⟨#[61]⟩] w fun e w' => e = .returned (.bool false) ∧ Drawn0 w w') := ⟨fun w => by rw [← b3.out]; exact H2.out w⟩
        have HM : Aside0 (∀ W2 : World, W2.heap[w.heap.size]? = some (.stringIter t (pos + n)) → t.size - W2.iterPos w.heap.size < t.size - wr.iterPos w.heap.size) := ⟨fun W2 h => by simp only [World.iterPos, h, HIT.out]; omega⟩
        clear hq hn2 hn1 hlen HC k3 hl k1 k2 hr
        go_wp2
        rw [HR.out]
        refine wp_loop_rounds 4 ?_
        rw [rounds_succ]
        go_wp2_with (first | (go_at_call 38; (with_reducible refine (H0.out _).mono ?_); rintro e w1 ⟨rfl, hd⟩; obtain ⟨n0, rfl⟩ := hd))
        rw [rounds_succ]
        go_wp2_with (first | (go_at_call 38; (with_reducible refine (H1.out _).mono ?_); rintro e w2 ⟨rfl, hd⟩; obtain ⟨n1, rfl⟩ := hd))
        rw [rounds_succ]
        go_wp2_with (first | (go_at_call 38; (with_reducible refine (H2.out _).mono ?_); rintro e w3 ⟨rfl, hd⟩; obtain ⟨n2, rfl⟩ := hd))
        rw [rounds_succ]
        go_wp2
        go_roundw
        case rel => exact ⟨pos + n, HKN.out.2, blk_alloc HIT2.out _, HC2, ⟨by repeat (first | (with_reducible exact HBW.out) | apply below_alloc | apply pw_below_drewN | apply below_drew1)⟩⟩
        case measure => exact HM.out _ (blk_alloc HIT2.out _)
    · have hnx := fun ty => Lib.run_next_end_at (P := Tryz.prog) wr w.heap.size t pos ty hit hp
      have hno : Aside0 (cutOp t.data.toList = none) := ⟨by rw [HC.out, List.drop_eq_nil_of_le (by rw [← HZ.out]; omega)]; rfl⟩
      go_wp2
      refine bodyPost_ret (v := .tuple #[.string ⟨#[]⟩, .string ⟨#[]⟩, .string ⟨#[]⟩, .bool false]) (by simp [results, Tryz.results34, go_sem]) rfl ⟨by rw [hno.out]; exact rfl, HB.out⟩
end Go.Proofs.YthejejeginnbdaaGreatDoor.FdC
