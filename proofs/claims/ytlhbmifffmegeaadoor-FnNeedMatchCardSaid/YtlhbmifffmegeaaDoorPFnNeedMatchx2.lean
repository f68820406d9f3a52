/- Functions of the program as plain Lean functions, and that the machine's calls do what these say: written for this claim by wip/myprint.py over the kit's print.py. -/
import Derived.Test.YtlhbmifffmegeaaDoorPFnNeedMatchx0
import Derived.Test.YtlhbmifffmegeaaDoorPFnNeedMatchx1
namespace Go.Proofs.YtlhbmifffmegeaaDoor.PFnNeedMatch
open Go.RowKit Go.Proofs.YtlhbmifffmegeaaDoorW.PrintWords Go.Proofs.YtlhbmifffmegeaaDoorW.PrintLast Go.Proofs.YtlhbmifffmegeaaDoorW.PrintMore
attribute [local go_sem] max2_int min2_int max_two min_two max_three min_three max_four min_four   -- for this text's walks alone
set_option linter.unusedVariables false
set_option linter.unusedSimpArgs false

/-! ### spec_NameValue: function 22 -/
def lowB (c : Int) : Bool := if c ≥ 97 then decide (c ≤ 122) else false
def digitB (c : Int) : Bool := if c ≥ 48 then decide (c ≤ 57) else false
def highB (c : Int) : Bool := if c ≥ 65 then decide (c ≤ 90) else false
def smallB (c : Int) : Bool := if lowB c = true then true else digitB c
def plainB (c : Int) : Bool := if smallB c = true then true else highB c
def wordB (c : Int) : Bool := if plainB c = true then true else if c = 45 then true else if c = 95 then true else c == 46
def hyB (c : Int) : Bool := if smallB c = true then true else c == 45
theorem lowB_f (c : Int) : spec_low.f c = some (lowB c) := by unfold spec_low.f lowB; split <;> rfl
theorem digitB_f (c : Int) : spec_digit.f c = some (digitB c) := by unfold spec_digit.f digitB; split <;> rfl
theorem highB_f (c : Int) : spec_high.f c = some (highB c) := by unfold spec_high.f highB; split <;> rfl
theorem smallB_f (c : Int) : spec_small.f c = some (smallB c) := by
  unfold spec_small.f smallB; rw [lowB_f, Option.bind_some, digitB_f]; split <;> rfl
theorem plainB_f (c : Int) : spec_plain.f c = some (plainB c) := by
  unfold spec_plain.f plainB; rw [smallB_f, Option.bind_some, highB_f]; split <;> rfl
theorem wordB_f (c : Int) : spec_word.f c = some (wordB c) := by
  unfold spec_word.f wordB; rw [plainB_f, Option.bind_some]; split; · rfl
  split; · rfl
  split <;> rfl
theorem c_plain (c : Int) (w : World) : Calls Tryd.prog 38 #[.int .u8 c] w fun e w' => e = .returned (.bool (plainB c)) ∧ Drawn0 w w' := spec_plain.calls c _ w (plainB_f c)
theorem c_small (c : Int) (w : World) : Calls Tryd.prog 51 #[.int .u8 c] w fun e w' => e = .returned (.bool (smallB c)) ∧ Drawn0 w w' := spec_small.calls c _ w (smallB_f c)
theorem c_word (c : Int) (w : World) : Calls Tryd.prog 39 #[.int .u8 c] w fun e w' => e = .returned (.bool (wordB c)) ∧ Drawn0 w w' := spec_word.calls c _ w (wordB_f c)
theorem c_digit (c : Int) (w : World) : Calls Tryd.prog 46 #[.int .u8 c] w fun e w' => e = .returned (.bool (digitB c)) ∧ Drawn0 w w' := spec_digit.calls c _ w (digitB_f c)
theorem c_hy (c : Int) (w : World) : Calls Tryd.prog 52 #[.int .u8 c] w fun e w' => e = .returned (.bool (hyB c)) ∧ Below w.heap.size w w' := by
  have HS := Aside0.mk (c_small c w)
  by_cases h : smallB c = true
  · have hv : hyB c = true := by unfold hyB; rw [if_pos h]
    rw [h] at HS
    go_enter Tryd.func52, Tryd.ntmps52
    go_wp2_with (go_at_call 51; (with_reducible refine (HS.out).mono ?_); rintro e w1 ⟨rfl, hd⟩; have HD := Aside0.mk hd.below; clear hd)
    go_ret
    exact ⟨by rw [hv]; rfl, HD.out⟩
  · have h' : smallB c = false := by simpa using h
    have hv : hyB c = (c == 45) := by unfold hyB; rw [if_neg h]
    rw [h'] at HS
    clear h h'
    go_enter Tryd.func52, Tryd.ntmps52
    go_wp2_with (go_at_call 51; (with_reducible refine (HS.out).mono ?_); rintro e w1 ⟨rfl, hd⟩; have HD := Aside0.mk hd.below; clear hd)
    go_ret
    exact ⟨by rw [hv]; rfl, HD.out⟩
theorem all_take {s : ByteArray} {p : Int → Bool} {k : Nat} (h : k < s.data.toList.length) : (s.data.toList.take (k + 1)).all (fun c => p c.toNat) = ((s.data.toList.take k).all (fun c => p c.toNat) && p s.data.toList[k].toNat) := by
  rw [List.take_succ_eq_append_getElem h, List.all_append]; simp
theorem sz_len (s : ByteArray) : s.size = s.data.toList.length := by rw [Array.length_toList]; rfl
set_option maxHeartbeats 1000000 in
theorem all_word (s : ByteArray) (hs : s.size ≤ 4294967296) (w : World) : Calls Tryd.prog 45 #[.string s, .func (.func 39) #[] #[]] w fun e w' => e = .returned (.bool (s.data.toList.all (fun c => wordB c.toNat))) ∧ Below w.heap.size w w' := by
  have HZ := Aside0.mk (sz_len s)
  go_enter Tryd.func45, Tryd.ntmps45
  go_wp2
  go_loopw [5] (fun i wr => ∃ k : Nat, k ≤ s.size ∧ i = .int .i64 (k : Int) ∧ Aside0 ((s.data.toList.take k).all (fun c => wordB c.toNat) = true) ∧ Aside0 (Below w.heap.size w wr)) (fun i _ => s.size - (intOf i).toNat)
  case atStart => exact ⟨0, Nat.zero_le _, rfl, ⟨by simp⟩, ⟨Below.refl _ _⟩⟩
  case round =>
    obtain ⟨k, hk, rfl, HA, HB⟩ := hrel
    by_cases hlt : k < s.size
    · have p : (0 ≤ (k : Int)) = True := eq_true (by omega)
      have q : ((k : Int) < (s.size : Int)) = True := eq_true (by omega)
      have hlen : k < s.data.toList.length := by have := HZ.out; omega
      obtain ⟨x, hsk, hxl⟩ : ∃ x, s[k]'hlt = x ∧ s.data.toList[k] = x := ⟨_, rfl, rfl⟩
      have ht := all_take (p := wordB) hlen
      rw [hxl] at ht
      have HT := Aside0.mk ht
      clear ht
      have HM : Aside0 (x ∈ s.data.toList) := ⟨by rw [← hxl]; exact List.getElem_mem hlen⟩
      have HC := Aside0.mk (c_word (x.toNat : Int) wr)
      clear hxl hlen
      by_cases hc : wordB x.toNat = true
      · rw [hc] at HC
        have HCC := Aside0.mk hc
        clear hc
        go_wp2_with (go_at_call 39; (with_reducible refine (HC.out).mono ?_); rintro e w1 ⟨rfl, hd⟩; have HD := Aside0.mk (below_step HB.out (show Below wr.heap.size wr w1 from hd.below)); clear hd)
        go_roundw
        case rel => exact ⟨k + 1, by omega, by go_num, ⟨by rw [HT.out, HA.out, HCC.out]; rfl⟩, HD⟩
        case measure => simp [intOf]; omega
      · have hc' : wordB x.toNat = false := by simpa using hc
        rw [hc'] at HC
        have HCC := Aside0.mk hc'
        clear hc hc'
        go_wp2_with (go_at_call 39; (with_reducible refine (HC.out).mono ?_); rintro e w1 ⟨rfl, hd⟩; have HD := Aside0.mk (below_step HB.out (show Below wr.heap.size wr w1 from hd.below)); clear hd)
        go_ret
        refine ⟨?_, HD.out⟩
        have : s.data.toList.all (fun c => wordB c.toNat) = false := List.all_eq_false.2 ⟨x, HM.out, by rw [HCC.out]; simp⟩
        rw [this]; rfl
    · have q : ((k : Int) < (s.size : Int)) = False := eq_false (by omega)
      go_wp2
      go_ret
      refine ⟨?_, HB.out⟩
      have e := HA.out
      rw [List.take_of_length_le (by have := HZ.out; omega)] at e
      rw [e]; rfl
set_option maxHeartbeats 1000000 in
theorem all_digit (s : ByteArray) (hs : s.size ≤ 4294967296) (w : World) : Calls Tryd.prog 45 #[.string s, .func (.func 46) #[] #[]] w fun e w' => e = .returned (.bool (s.data.toList.all (fun c => digitB c.toNat))) ∧ Below w.heap.size w w' := by
  have HZ := Aside0.mk (sz_len s)
  go_enter Tryd.func45, Tryd.ntmps45
  go_wp2
  go_loopw [5] (fun i wr => ∃ k : Nat, k ≤ s.size ∧ i = .int .i64 (k : Int) ∧ Aside0 ((s.data.toList.take k).all (fun c => digitB c.toNat) = true) ∧ Aside0 (Below w.heap.size w wr)) (fun i _ => s.size - (intOf i).toNat)
  case atStart => exact ⟨0, Nat.zero_le _, rfl, ⟨by simp⟩, ⟨Below.refl _ _⟩⟩
  case round =>
    obtain ⟨k, hk, rfl, HA, HB⟩ := hrel
    by_cases hlt : k < s.size
    · have p : (0 ≤ (k : Int)) = True := eq_true (by omega)
      have q : ((k : Int) < (s.size : Int)) = True := eq_true (by omega)
      have hlen : k < s.data.toList.length := by have := HZ.out; omega
      obtain ⟨x, hsk, hxl⟩ : ∃ x, s[k]'hlt = x ∧ s.data.toList[k] = x := ⟨_, rfl, rfl⟩
      have ht := all_take (p := digitB) hlen
      rw [hxl] at ht
      have HT := Aside0.mk ht
      clear ht
      have HM : Aside0 (x ∈ s.data.toList) := ⟨by rw [← hxl]; exact List.getElem_mem hlen⟩
      have HC := Aside0.mk (c_digit (x.toNat : Int) wr)
      clear hxl hlen
      by_cases hc : digitB x.toNat = true
      · rw [hc] at HC
        have HCC := Aside0.mk hc
        clear hc
        go_wp2_with (go_at_call 46; (with_reducible refine (HC.out).mono ?_); rintro e w1 ⟨rfl, hd⟩; have HD := Aside0.mk (below_step HB.out (show Below wr.heap.size wr w1 from hd.below)); clear hd)
        go_roundw
        case rel => exact ⟨k + 1, by omega, by go_num, ⟨by rw [HT.out, HA.out, HCC.out]; rfl⟩, HD⟩
        case measure => simp [intOf]; omega
      · have hc' : digitB x.toNat = false := by simpa using hc
        rw [hc'] at HC
        have HCC := Aside0.mk hc'
        clear hc hc'
        go_wp2_with (go_at_call 46; (with_reducible refine (HC.out).mono ?_); rintro e w1 ⟨rfl, hd⟩; have HD := Aside0.mk (below_step HB.out (show Below wr.heap.size wr w1 from hd.below)); clear hd)
        go_ret
        refine ⟨?_, HD.out⟩
        have : s.data.toList.all (fun c => digitB c.toNat) = false := List.all_eq_false.2 ⟨x, HM.out, by rw [HCC.out]; simp⟩
        rw [this]; rfl
    · have q : ((k : Int) < (s.size : Int)) = False := eq_false (by omega)
      go_wp2
      go_ret
      refine ⟨?_, HB.out⟩
      have e := HA.out
      rw [List.take_of_length_le (by have := HZ.out; omega)] at e
      rw [e]; rfl
set_option maxHeartbeats 1000000 in
theorem all_hy (s : ByteArray) (hs : s.size ≤ 4294967296) (w : World) : Calls Tryd.prog 45 #[.string s, .func (.func 52) #[] #[]] w fun e w' => e = .returned (.bool (s.data.toList.all (fun c => hyB c.toNat))) ∧ Below w.heap.size w w' := by
  have HZ := Aside0.mk (sz_len s)
  go_enter Tryd.func45, Tryd.ntmps45
  go_wp2
  go_loopw [5] (fun i wr => ∃ k : Nat, k ≤ s.size ∧ i = .int .i64 (k : Int) ∧ Aside0 ((s.data.toList.take k).all (fun c => hyB c.toNat) = true) ∧ Aside0 (Below w.heap.size w wr)) (fun i _ => s.size - (intOf i).toNat)
  case atStart => exact ⟨0, Nat.zero_le _, rfl, ⟨by simp⟩, ⟨Below.refl _ _⟩⟩
  case round =>
    obtain ⟨k, hk, rfl, HA, HB⟩ := hrel
    by_cases hlt : k < s.size
    · have p : (0 ≤ (k : Int)) = True := eq_true (by omega)
      have q : ((k : Int) < (s.size : Int)) = True := eq_true (by omega)
      have hlen : k < s.data.toList.length := by have := HZ.out; omega
      obtain ⟨x, hsk, hxl⟩ : ∃ x, s[k]'hlt = x ∧ s.data.toList[k] = x := ⟨_, rfl, rfl⟩
      have ht := all_take (p := hyB) hlen
      rw [hxl] at ht
      have HT := Aside0.mk ht
      clear ht
      have HM : Aside0 (x ∈ s.data.toList) := ⟨by rw [← hxl]; exact List.getElem_mem hlen⟩
      have HC := Aside0.mk (c_hy (x.toNat : Int) wr)
      clear hxl hlen
      by_cases hc : hyB x.toNat = true
      · rw [hc] at HC
        have HCC := Aside0.mk hc
        clear hc
        go_wp2_with (go_at_call 52; (with_reducible refine (HC.out).mono ?_); rintro e w1 ⟨rfl, hd⟩; have HD := Aside0.mk (below_step HB.out (show Below wr.heap.size wr w1 from hd)); clear hd)
        go_roundw
        case rel => exact ⟨k + 1, by omega, by go_num, ⟨by rw [HT.out, HA.out, HCC.out]; rfl⟩, HD⟩
        case measure => simp [intOf]; omega
      · have hc' : hyB x.toNat = false := by simpa using hc
        rw [hc'] at HC
        have HCC := Aside0.mk hc'
        clear hc hc'
        go_wp2_with (go_at_call 52; (with_reducible refine (HC.out).mono ?_); rintro e w1 ⟨rfl, hd⟩; have HD := Aside0.mk (below_step HB.out (show Below wr.heap.size wr w1 from hd)); clear hd)
        go_ret
        refine ⟨?_, HD.out⟩
        have : s.data.toList.all (fun c => hyB c.toNat) = false := List.all_eq_false.2 ⟨x, HM.out, by rw [HCC.out]; simp⟩
        rw [this]; rfl
    · have q : ((k : Int) < (s.size : Int)) = False := eq_false (by omega)
      go_wp2
      go_ret
      refine ⟨?_, HB.out⟩
      have e := HA.out
      rw [List.take_of_length_le (by have := HZ.out; omega)] at e
      rw [e]; rfl
def framedB (e m : Int → Bool) (l : List UInt8) : Bool := match l with
  | [] => false
  | c :: r => e c.toNat && e ((c :: r).getLast (by simp)).toNat && (c :: r).all (fun x => m x.toNat)
theorem framed_pos {e m : Int → Bool} : ∀ (l : List UInt8) (h : 0 < l.length), framedB e m l = (e (l[0]'h).toNat && e (l[l.length - 1]'(by omega)).toNat && l.all (fun x => m x.toNat))
  | [], h => absurd h (by simp)
  | c :: r, h => by simp only [framedB, List.getLast_eq_getElem, List.getElem_cons_zero]
set_option maxHeartbeats 1000000 in
theorem framed_plain_word (s : ByteArray) (hs : s.size ≤ 4294967296) (w : World) : Calls Tryd.prog 37 #[.string s, .func (.func 38) #[] #[], .func (.func 39) #[] #[]] w fun e w' => e = .returned (.bool (framedB plainB wordB s.data.toList)) ∧ Below w.heap.size w w' := by
  have hz := sz_len s
  by_cases h0 : s.size = 0
  · have p : (0 < (s.size : Int)) = False := eq_false (by omega)
    have hv : framedB plainB wordB s.data.toList = false := by rw [List.eq_nil_of_length_eq_zero (by omega : s.data.toList.length = 0)]; rfl
    rw [hv]
    clear hv hz
    go_enter Tryd.func37, Tryd.ntmps37
    go_wp2
    go_ret
    exact ⟨rfl, Below.refl _ _⟩
  · have hlt : 0 < s.data.toList.length := by omega
    have hlt2 : s.data.toList.length - 1 < s.data.toList.length := by omega
    have hv := framed_pos (e := plainB) (m := wordB) s.data.toList hlt
    rw [hv]
    obtain ⟨n, hn⟩ : ∃ n : Nat, s.size = n + 1 := ⟨s.size - 1, by omega⟩
    have hn0 : 0 < s.size := by omega
    have hn1 : n < s.size := by omega
    have s0 : s[0]'hn0 = s.data.toList[0] := rfl
    have sn : s[n]'hn1 = s.data.toList[s.data.toList.length - 1] := by
      have e : n = s.data.toList.length - 1 := by omega
      subst e; rfl
    have p : (0 < (s.size : Int)) = True := eq_true (by omega)
    have p2 : ((s.size : Int)) = (n : Int) + 1 := by omega
    have e1' : wrap64 (n : Int) = (n : Int) := IntWalk.wrap64_in _ ⟨by omega, by omega⟩
    have HA := Aside0.mk (fun w => c_plain (s.data.toList[0].toNat : Int) w)
    have HB := Aside0.mk (fun w => c_plain (s.data.toList[s.data.toList.length - 1].toNat : Int) w)
    have HC := Aside0.mk (fun w => all_word s hs w)
    generalize s.data.toList[0] = a at s0 HA ⊢
    generalize s.data.toList[s.data.toList.length - 1] = b at sn HB ⊢
    generalize s.data.toList.all (fun x => wordB x.toNat) = all at HC ⊢
    clear hv hz hlt hlt2 hs
    cases ha : plainB a.toNat
    · rw [ha] at HA
      go_enter Tryd.func37, Tryd.ntmps37
      go_wp2_with (first | (go_at_call 38; (with_reducible refine (HA.out _).mono ?_); rintro e w1 ⟨rfl, hd⟩; have HD := Aside0.mk (show Below w.heap.size w w1 from hd.below); clear hd HA))
      go_ret
      exact ⟨by simp, by repeat (first | (with_reducible exact HD.out) | apply pw_below_drewN)⟩
    · rw [ha] at HA
      cases hb : plainB b.toNat
      · rw [hb] at HB
        go_enter Tryd.func37, Tryd.ntmps37
        go_wp2_with (first
          | (go_at_call 38; (with_reducible refine (HA.out _).mono ?_); rintro e w1 ⟨rfl, hd⟩; have HD := Aside0.mk (show Below w.heap.size w w1 from hd.below); clear hd HA)
          | (go_at_call 38; (with_reducible refine (HB.out _).mono ?_); rintro e w2 ⟨rfl, hd⟩; have HD2 := Aside0.mk (below_step HD.out hd.below); clear hd HB))
        go_ret
        exact ⟨by simp, by repeat (first | (with_reducible exact HD2.out) | apply pw_below_drewN)⟩
      · rw [hb] at HB
        go_enter Tryd.func37, Tryd.ntmps37
        go_wp2_with (first
          | (go_at_call 38; (with_reducible refine (HA.out _).mono ?_); rintro e w1 ⟨rfl, hd⟩; have HD := Aside0.mk (show Below w.heap.size w w1 from hd.below); clear hd HA)
          | (go_at_call 38; (with_reducible refine (HB.out _).mono ?_); rintro e w2 ⟨rfl, hd⟩; have HD2 := Aside0.mk (below_step HD.out hd.below); clear hd HB)
          | (go_at_call 45; (with_reducible refine (HC.out _).mono ?_); rintro e w3 ⟨rfl, hd⟩; have HD3 := Aside0.mk (below_step HD2.out hd); clear hd HC))
        go_ret
        exact ⟨by simp, by repeat (first | (with_reducible exact HD3.out) | apply pw_below_drewN)⟩
set_option maxHeartbeats 1000000 in
theorem framed_small_hy (s : ByteArray) (hs : s.size ≤ 4294967296) (w : World) : Calls Tryd.prog 37 #[.string s, .func (.func 51) #[] #[], .func (.func 52) #[] #[]] w fun e w' => e = .returned (.bool (framedB smallB hyB s.data.toList)) ∧ Below w.heap.size w w' := by
  have hz := sz_len s
  by_cases h0 : s.size = 0
  · have p : (0 < (s.size : Int)) = False := eq_false (by omega)
    have hv : framedB smallB hyB s.data.toList = false := by rw [List.eq_nil_of_length_eq_zero (by omega : s.data.toList.length = 0)]; rfl
    rw [hv]
    clear hv hz
    go_enter Tryd.func37, Tryd.ntmps37
    go_wp2
    go_ret
    exact ⟨rfl, Below.refl _ _⟩
  · have hlt : 0 < s.data.toList.length := by omega
    have hlt2 : s.data.toList.length - 1 < s.data.toList.length := by omega
    have hv := framed_pos (e := smallB) (m := hyB) s.data.toList hlt
    rw [hv]
    obtain ⟨n, hn⟩ : ∃ n : Nat, s.size = n + 1 := ⟨s.size - 1, by omega⟩
    have hn0 : 0 < s.size := by omega
    have hn1 : n < s.size := by omega
    have s0 : s[0]'hn0 = s.data.toList[0] := rfl
    have sn : s[n]'hn1 = s.data.toList[s.data.toList.length - 1] := by
      have e : n = s.data.toList.length - 1 := by omega
      subst e; rfl
    have p : (0 < (s.size : Int)) = True := eq_true (by omega)
    have p2 : ((s.size : Int)) = (n : Int) + 1 := by omega
    have e1' : wrap64 (n : Int) = (n : Int) := IntWalk.wrap64_in _ ⟨by omega, by omega⟩
    have HA := Aside0.mk (fun w => c_small (s.data.toList[0].toNat : Int) w)
    have HB := Aside0.mk (fun w => c_small (s.data.toList[s.data.toList.length - 1].toNat : Int) w)
    have HC := Aside0.mk (fun w => all_hy s hs w)
    generalize s.data.toList[0] = a at s0 HA ⊢
    generalize s.data.toList[s.data.toList.length - 1] = b at sn HB ⊢
    generalize s.data.toList.all (fun x => hyB x.toNat) = all at HC ⊢
    clear hv hz hlt hlt2 hs
    cases ha : smallB a.toNat
    · rw [ha] at HA
      go_enter Tryd.func37, Tryd.ntmps37
      go_wp2_with (first | (go_at_call 51; (with_reducible refine (HA.out _).mono ?_); rintro e w1 ⟨rfl, hd⟩; have HD := Aside0.mk (show Below w.heap.size w w1 from hd.below); clear hd HA))
      go_ret
      exact ⟨by simp, by repeat (first | (with_reducible exact HD.out) | apply pw_below_drewN)⟩
    · rw [ha] at HA
      cases hb : smallB b.toNat
      · rw [hb] at HB
        go_enter Tryd.func37, Tryd.ntmps37
        go_wp2_with (first
          | (go_at_call 51; (with_reducible refine (HA.out _).mono ?_); rintro e w1 ⟨rfl, hd⟩; have HD := Aside0.mk (show Below w.heap.size w w1 from hd.below); clear hd HA)
          | (go_at_call 51; (with_reducible refine (HB.out _).mono ?_); rintro e w2 ⟨rfl, hd⟩; have HD2 := Aside0.mk (below_step HD.out hd.below); clear hd HB))
        go_ret
        exact ⟨by simp, by repeat (first | (with_reducible exact HD2.out) | apply pw_below_drewN)⟩
      · rw [hb] at HB
        go_enter Tryd.func37, Tryd.ntmps37
        go_wp2_with (first
          | (go_at_call 51; (with_reducible refine (HA.out _).mono ?_); rintro e w1 ⟨rfl, hd⟩; have HD := Aside0.mk (show Below w.heap.size w w1 from hd.below); clear hd HA)
          | (go_at_call 51; (with_reducible refine (HB.out _).mono ?_); rintro e w2 ⟨rfl, hd⟩; have HD2 := Aside0.mk (below_step HD.out hd.below); clear hd HB)
          | (go_at_call 45; (with_reducible refine (HC.out _).mono ?_); rintro e w3 ⟨rfl, hd⟩; have HD3 := Aside0.mk (below_step HD2.out hd); clear hd HC))
        go_ret
        exact ⟨by simp, by repeat (first | (with_reducible exact HD3.out) | apply pw_below_drewN)⟩
/-- A label's value. -/
def nameValueB (l : List UInt8) : Bool := if l = [] then true else if l.length ≤ 63 then framedB plainB wordB l else false
def spec_NameValue.f (s : ByteArray) : Option Bool := if s.size ≤ 4294967296 then some (nameValueB s.data.toList) else none
set_option maxHeartbeats 1000000 in
theorem spec_NameValue.calls (a0 : ByteArray) (r : Bool) (w : World) (h : spec_NameValue.f a0 = some r) :
    Calls Tryd.prog 22 #[.string a0] w fun e w' => e = .returned (.bool r) ∧ Below w.heap.size w w' := by
  unfold spec_NameValue.f at h
  by_cases hs : a0.size ≤ 4294967296
  · rw [if_pos hs] at h
    obtain rfl := Option.some.inj h
    clear h
    have hz := sz_len a0
    have HF := Aside0.mk (fun w => framed_plain_word a0 hs w)
    have HL : a0.toList = a0.data.toList := by
      have hh : ∀ (n i : Nat) (r : List UInt8), i + n = a0.size → ByteArray.toList.loop a0 i r = r.reverse ++ a0.data.toList.drop i := by
        intro n
        induction n with
        | zero => intro i r h; rw [ByteArray.toList.loop, if_neg (by omega), List.drop_eq_nil_of_le (by omega), List.append_nil]
        | succ n ih =>
          intro i r h
          have hi : i < a0.data.toList.length := by omega
          have hg : a0.get! i = a0.data.toList[i] := by
            show a0.data[i]! = _
            rw [getElem!_pos a0.data i (by show i < a0.size; omega)]; rfl
          rw [ByteArray.toList.loop, if_pos (by omega), ih (i + 1) _ (by omega), List.drop_eq_getElem_cons hi, hg]
          simp
      have := hh a0.size 0 [] (by omega)
      unfold ByteArray.toList
      rw [this]; simp
    by_cases h0 : a0.data.toList = []
    · have hv : nameValueB a0.data.toList = true := by unfold nameValueB; rw [if_pos h0]
      have t1 : (a0.toList == []) = true := by rw [HL, h0]; rfl
      rw [hv]
      clear hv hz hs h0 HF HL
      go_enter Tryd.func22, Tryd.ntmps22
      go_wp2
      go_ret
      exact ⟨rfl, Below.refl _ _⟩
    · have t1 : (a0.toList == []) = false := by rw [HL]; exact beq_eq_false_iff_ne.2 h0
      by_cases h1 : a0.data.toList.length ≤ 63
      · have hv : nameValueB a0.data.toList = framedB plainB wordB a0.data.toList := by unfold nameValueB; rw [if_neg h0, if_pos h1]
        have t2 : ((a0.size : Int) ≤ 63) = True := eq_true (by omega)
        rw [hv]
        generalize framedB plainB wordB a0.data.toList = v at HF ⊢
        clear hv hz hs h0 HL h1
        go_enter Tryd.func22, Tryd.ntmps22
        go_wp2_with (first | (go_at_call 37; (with_reducible refine (HF.out _).mono ?_); rintro e w1 ⟨rfl, hd⟩; have HD := Aside0.mk (show Below w.heap.size w w1 from hd); clear hd HF))
        go_ret
        exact ⟨by simp, by repeat (first | (with_reducible exact HD.out) | apply pw_below_drewN)⟩
      · have hv : nameValueB a0.data.toList = false := by unfold nameValueB; rw [if_neg h0, if_neg h1]
        have t2 : ((a0.size : Int) ≤ 63) = False := eq_false (by omega)
        rw [hv]
        clear hv hz hs h0 HL h1 HF
        go_enter Tryd.func22, Tryd.ntmps22
        go_wp2
        go_ret
        exact ⟨rfl, Below.refl _ _⟩
  · rw [if_neg hs] at h; cases h
/-! ### spec_Split: function 35 -/
def spS (s : ByteArray) (c : Int) : Nat → List ByteArray → Nat → Option (List ByteArray)
  | 0, _, _ => none
  | k + 1, ts, pos =>
    if pos < s.size then
      if bt s pos = c then (if ts.length < 8796093022207 then spS s c k (ts ++ [(⟨#[]⟩ : ByteArray)]) (pos + 1) else none)
      else (if 0 < ts.length ∧ (rdOf ByteArray.empty ts ((ts.length - 1 : Nat) : Int)).size ≤ 140737488351232 ∧ ts.length < 8796093022207 then spS s c k (ts.set (ts.length - 1) (rdOf ByteArray.empty ts ((ts.length - 1 : Nat) : Int) ++ s.extract pos (pos + 1))) (pos + 1) else none)
    else some ts
theorem spS_mono (s : ByteArray) (c : Int) : ∀ k ts pos, LeO (spS s c k ts pos) (spS s c (k + 1) ts pos) := by
  intro k
  induction k with
  | zero => intros; exact LeO.none _
  | succ k ih =>
    intro ts pos
    show LeO (spS s c (k + 1) ts pos) (spS s c (k + 1 + 1) ts pos)
    unfold spS
    exact LeO.ite (LeO.ite (LeO.ite (ih _ _) (LeO.none _)) (LeO.ite (ih _ _) (LeO.none _))) (LeO.refl _)
def spec_Split.f (k : Nat) (a0 : ByteArray) (a1 : Int) : Option (List ByteArray) := if a0.size ≤ 9223372036854775806 then spS a0 a1 k [(⟨#[]⟩ : ByteArray)] 0 else none
theorem spec_Split.mono : ∀ a0 a1 k, LeO (spec_Split.f k a0 a1) (spec_Split.f (k + 1) a0 a1) := by
  intro a0 a1 k
  unfold spec_Split.f
  exact LeO.ite (spS_mono _ _ _ _ _) (LeO.refl _)
set_option maxHeartbeats 4000000 in
theorem spec_Split.calls (k : Nat) (a0 : ByteArray) (a1 : Int) (r : List ByteArray) (w : World) (h : spec_Split.f k a0 a1 = some r) :
    Calls Tryd.prog 35 #[.string a0, .int .u8 a1] w fun e w' => ∃ v0_ : Value, e = .returned (v0_) ∧ Kd.R Kd.string 9 w' w.heap.size (fun _ => True) v0_ r ∧ Below w.heap.size w w' := by
  unfold spec_Split.f at h
  by_cases h1 : a0.size ≤ 9223372036854775806
  · rw [if_pos h1] at h
    have HS := Aside0.mk h1
    have H' := Aside0.mk h
    clear h h1
    go_enter Tryd.func35, Tryd.ntmps35
    go_wp2_with fail
    have HR0 : Aside0 (Kd.R Kd.string 9 (w.alloc (.cells #[.string ⟨#[]⟩] 9)) w.heap.size (fun _ => True) (.slice (some ⟨w.heap.size, 0, none⟩) 1 1) [(⟨#[]⟩ : ByteArray)]) := ⟨by
      refine ⟨fun q hq => trivial, [.string ⟨#[]⟩], ⟨rfl, Or.inr ⟨w.heap.size, 1, #[.string ⟨#[]⟩], rfl, Nat.le_refl _, blk_new w _, by simp, by decide, rfl, rfl⟩⟩, Reps.one (show Kd.M Kd.string _ _ _ (⟨#[]⟩ : ByteArray) [.string (⟨#[]⟩ : ByteArray)] from rfl) (Reps.none _ _)⟩⟩
    go_loopg [5, 6] k (fun kq v5 v6 w' => ∃ (xs : List ByteArray) (pos : Nat), v6 = .int .i64 (pos : Int) ∧ Aside0 (spS a0 a1 kq xs pos = some r) ∧ Aside0 (kq ≤ k) ∧ Aside0 (Kd.R Kd.string 9 w' w.heap.size (fun _ => True) v5 xs) ∧ Aside0 (Below w.heap.size w w'))
    case atStart => exact ⟨_, 0, rfl, H', ⟨Nat.le_refl _⟩, HR0, ⟨below_alloc (Below.refl _ _) _⟩⟩
    case round =>
      clear H' HR0
      obtain ⟨xs, pos, rfl, HA, HK1, HR, HB⟩ := hrel
      cases gk with
      | zero => exact absurd HA.out (by simp [spS])
      | succ k1 =>
        have H := HA.out
        clear HA
        simp only [spS] at H
        have hw : wrap64 ((pos : Int) + 1) = ((pos + 1 : Nat) : Int) ∨ ¬ pos < a0.size := by
          have := HS.out
          by_cases c : pos < a0.size
          · left; simp only [wrap64]; omega
          · exact Or.inr c
        have hw' := Aside0.mk hw
        clear hw
        obtain ⟨Ao, co, eo⟩ := Kd.R_slice HR.out
        subst eo
        by_cases c1 : pos < a0.size
        · rw [if_pos c1] at H
          have hw := Aside0.mk (hw'.out.resolve_right (fun z => z c1))
          have b1 : decide ((pos : Int) < (a0.size : Int)) = true := decide_eq_true (by omega)
          have p1 : (0 ≤ (pos : Int)) = True := eq_true (by omega)
          have q1 : ((pos : Int) < (a0.size : Int)) = True := eq_true (by omega)
          have hx : ∀ h : pos < a0.size, ((a0[pos]'h).toNat : Int) = bt a0 (pos : Int) := fun h => by have := bt_at a0 (pos : Int); simp only [Int.toNat_natCast] at this; exact this h
          by_cases c2 : bt a0 pos = a1
          · rw [if_pos c2] at H
            by_cases c4 : xs.length < 8796093022207
            · rw [if_pos c4] at H
              have H' := Aside0.mk H
              clear H
              have LM := Aside0.mk c4
              have e2 : ((bt a0 (pos : Int)) == a1) = true := beq_iff_eq.2 c2
              clear c4
              go_wp2_with (first | ((with_reducible refine gate_builtin (b := .append) (xs := #[.tmp 19, .tmp 20]) rfl ?_); at_builtin; refine Kd.R_append Kd.string (w0 := w) w.heap.size rfl (.tmp 19) (.tmp 20) 22 9 (.string ⟨#[]⟩) 16 rfl Tryd.underlying22 info9 rfl (by decide) (by omega) (.slice Ao xs.length co) xs (⟨#[]⟩ : ByteArray) [.string (⟨#[]⟩ : ByteArray)] (fun _ => True) (fun _ => False) rfl rfl ?aP (fun _ hk => hk.elim) ?aF ?aO ?aB ?aS ?aL ?_; (case aP => exact rfl); (case aB => exact HB.out); (case aF => exact fun _ _ => trivial); (case aO => exact HR.out); (case aS => exact below_size HB.out); (case aL => have := LM.out; omega); intro v9 w9 ho hb hg hat))
              have RO := Aside0.mk ho
              have BO := Aside0.mk hb
              clear ho hb hg hat HR HB
              go_wp2_with fail
              rw [hw.out]
              go_roundg k1
              case measure => have := HK1.out; omega
              case rel => exact ⟨_, pos + 1, rfl, H', ⟨by have := HK1.out; omega⟩, RO, BO⟩
            · rw [if_neg c4] at H
              simp at H
          · rw [if_neg c2] at H
            by_cases c4 : 0 < xs.length ∧ (rdOf ByteArray.empty xs ((xs.length - 1 : Nat) : Int)).size ≤ 140737488351232 ∧ xs.length < 8796093022207
            · rw [if_pos c4] at H
              have H' := Aside0.mk H
              clear H
              have e2 : ((bt a0 (pos : Int)) == a1) = false := beq_eq_false_iff_ne.2 c2
              have hj : wrap64 ((xs.length : Int) - 1) = ((xs.length - 1 : Nat) : Int) := by simp only [wrap64]; omega
              have hj' : IntKind.i64.wrap ((xs.length : Int) - 1) = ((xs.length - 1 : Nat) : Int) := by rw [IntKind.wrap_i64]; omega
              obtain ⟨go1, co1, eo1, gb1, gl1, cl1, HG1⟩ := Kd.R_form HR.out c4.1
              simp only [Value.slice.injEq] at eo1
              obtain ⟨rfl, -, rfl⟩ := eo1
              obtain ⟨hx0, hf0⟩ := Kd.R_celln (⟨#[]⟩ : ByteArray) HR.out ((xs.length - 1 : Nat) : Int) (by omega) (by omega)
              have z1 : (0 ≤ (((xs.length - 1 : Nat)) : Int)) = True := eq_true (by omega)
              have z2 : ((((xs.length - 1 : Nat)) : Int) < (xs.length : Int)) = True := eq_true (by omega)
              simp only [Int.toNat_natCast] at hx0 hf0
              have hext : (⟨[a0[pos]'c1].toArray⟩ : ByteArray) = a0.extract pos (pos + 1) := by
                apply ByteArray.ext
                simp only [ByteArray.data_extract]
                apply Array.toList_inj.1
                have hl : pos < a0.data.size := c1
                simp only [Array.toList_extract, List.extract_eq_take_drop, Nat.add_sub_cancel_left]
                rw [List.drop_eq_getElem_cons (by simpa using hl)]
                simp
                rfl
              have hcv : (convert 34 9 (.slice (some ⟨wr.heap.size, 0, none⟩) 1 1)).run Tryd.prog ((wr.alloc (.cells #[.int .u8 (bt a0 (pos : Int))] 5)).drew) = .ok (.string (a0.extract pos (pos + 1))) ((wr.alloc (.cells #[.int .u8 (bt a0 (pos : Int))] 5)).drew) := by
                have := run_convert_bytes_back (P := Tryd.prog) ((wr.alloc (.cells #[.int .u8 (bt a0 (pos : Int))] 5)).drew) 34 9 5 ⟨wr.heap.size, 0, none⟩ 1 [a0[pos]'c1] Tryd.underlying34 Tryd.underlying5 Tryd.underlying9 (fun j hj => by
                  have : j = 0 := by simpa using hj
                  subst this
                  have hb := blk_cell (blk_drew (blk_new wr (.cells #[.int .u8 (bt a0 (pos : Int))] 5 (0, 0)))) 0
                  rw [← hx c1] at hb ⊢
                  exact hb)
                rw [hext] at this
                exact this
              have hcc : (9223372036854775807 < (rdOf (⟨#[]⟩ : ByteArray) xs ((xs.length - 1 : Nat) : Int)).size + (min (pos + 1) a0.size - pos)) = False := eq_false (by have h9 : (rdOf (⟨#[]⟩ : ByteArray) xs ((xs.length - 1 : Nat) : Int)).size ≤ 140737488351232 := c4.2.1; omega)
              go_wp2_with fail
              go_region
              all_goals go_wp2_with fail
              all_goals rw [hw.out]
              all_goals go_roundg k1
              case measure => have := HK1.out; omega
              case rel => exact ⟨_, pos + 1, rfl, H', ⟨by have := HK1.out; omega⟩, ⟨Kd.R_drew (Kd.R_alloc (Kd.R_putn HR.out ((xs.length - 1 : Nat) : Int) (rdOf (⟨#[]⟩ : ByteArray) xs ((xs.length - 1 : Nat) : Int) ++ a0.extract pos (pos + 1))) _)⟩, ⟨below_drew1 (below_alloc (below_set HB.out gb1) _)⟩⟩
            · rw [if_neg c4] at H
              simp at H
        · rw [if_neg c1] at H
          have b1 : decide ((pos : Int) < (a0.size : Int)) = false := decide_eq_false (by omega)
          obtain rfl := Option.some.inj H
          clear H
          go_wp2_with fail
          go_ret
          exact ⟨_, rfl, HR.out, HB.out⟩
  · rw [if_neg h1] at h
    simp at h
/-! ### spec_NameDomain: function 36 -/
/-- A subdomain: all its pieces are labels. -/
def spec_NameDomain.f (k : Nat) (s : ByteArray) : Option Bool := (spec_Split.f k s 46).bind fun l => if l.length ≤ 4294967296 ∧ (∀ x ∈ l, x.size ≤ 4294967296) then some (l.all (fun x => framedB smallB hyB x.data.toList) && decide (s.size ≤ 253)) else none
theorem spec_NameDomain.mono : ∀ a0 k, LeO (spec_NameDomain.f k a0) (spec_NameDomain.f (k + 1) a0) := by
  intro a0 k
  intro r h
  unfold spec_NameDomain.f at h ⊢
  cases hs : spec_Split.f k a0 46 with
  | none => rw [hs] at h; cases h
  | some l => rw [hs] at h; rw [spec_Split.mono a0 46 k _ hs]; exact h
set_option maxHeartbeats 1000000 in
theorem spec_NameDomain.calls (k : Nat) (a0 : ByteArray) (r : Bool) (w : World) (h : spec_NameDomain.f k a0 = some r) :
    Calls Tryd.prog 36 #[.string a0] w fun e w' => e = .returned (.bool r) ∧ Below w.heap.size w w' := by
  unfold spec_NameDomain.f at h
  cases hs : spec_Split.f k a0 46 with
  | none => rw [hs] at h; cases h
  | some l =>
    rw [hs, Option.bind_some] at h
    by_cases hg : l.length ≤ 4294967296 ∧ (∀ x ∈ l, x.size ≤ 4294967296)
    rotate_left
    · rw [if_neg hg] at h; cases h
    rw [if_pos hg] at h
    obtain rfl := Option.some.inj h
    clear h
    have HS := Aside0.mk (spec_Split.calls k a0 46 l w hs)
    have HG := Aside0.mk hg.2
    have hl := hg.1
    clear hs hg
    go_enter Tryd.func36, Tryd.ntmps36
    go_wp2_with (first | (go_at_call 35; (with_reducible refine (HS.out).mono ?_); rintro e w1 ⟨v0, rfl, hr, hb⟩; have HR := Aside0.mk hr; have HB1 := Aside0.mk hb; clear hr hb HS))
    obtain ⟨Ao, co, rfl⟩ := Kd.R_slice HR.out
    have HC := Aside0.mk (Kd.R_reads' HR.out).2.2
    clear HR
    go_wp2
    go_loopw [4] (fun i wr => ∃ j : Nat, j ≤ l.length ∧ i = .int .i64 (j : Int) ∧ Aside0 ((l.take j).all (fun x => framedB smallB hyB x.data.toList) = true) ∧ Aside0 (Below w1.heap.size w1 wr)) (fun i _ => l.length - (intOf i).toNat)
    case atStart => exact ⟨0, Nat.zero_le _, rfl, ⟨by simp⟩, ⟨Below.refl _ _⟩⟩
    case round =>
      obtain ⟨j, hj, rfl, HA, HB⟩ := hrel
      by_cases hlt : j < l.length
      · have p : (0 ≤ (j : Int)) = True := eq_true (by omega)
        have q : ((j : Int) < (l.length : Int)) = True := eq_true (by omega)
        obtain ⟨ad, rfl, hx⟩ := Kd.at_string HC.out (j : Int) (by omega) (by omega)
        have hx' := (HB.out.cell (World.block_lt_of_cell? w1 _ hx)).trans hx
        clear hx
        have hre : rdOf ByteArray.empty l (j : Int) = l[j] := by unfold rdOf; rw [Int.toNat_natCast, List.getD_eq_getElem?_getD, List.getElem?_eq_getElem hlt]; rfl
        simp only [Int.toNat_natCast] at hx'
        rw [hre] at hx'
        clear hre
        have HF := Aside0.mk (framed_small_hy l[j] (HG.out _ (List.getElem_mem hlt)) wr)
        have HT : Aside0 ((l.take (j + 1)).all (fun x => framedB smallB hyB x.data.toList) = framedB smallB hyB l[j].data.toList) := ⟨by
          rw [List.take_succ_eq_append_getElem hlt, List.all_append, HA.out]; simp⟩
        cases hc : framedB smallB hyB l[j].data.toList
        · rw [hc] at HF
          have HCC := Aside0.mk hc
          clear hc HT
          go_wp2_with (first | (go_at_call 37; (with_reducible refine (HF.out).mono ?_); rintro e w2 ⟨rfl, hd⟩; have HD := Aside0.mk (below_step HB.out hd); clear hd HF))
          go_ret
          refine ⟨?_, below_step HB1.out HD.out⟩
          have : l.all (fun x => framedB smallB hyB x.data.toList) = false := List.all_eq_false.2 ⟨l[j], List.getElem_mem hlt, by rw [HCC.out]; simp⟩
          rw [this]; rfl
        · rw [hc] at HF
          rw [hc] at HT
          clear hc
          go_wp2_with (first | (go_at_call 37; (with_reducible refine (HF.out).mono ?_); rintro e w2 ⟨rfl, hd⟩; have HD := Aside0.mk (below_step HB.out hd); clear hd HF))
          go_roundw
          case rel => exact ⟨j + 1, by omega, by go_num, ⟨HT.out⟩, HD⟩
          case measure => simp [intOf]; omega
      · have q : ((j : Int) < (l.length : Int)) = False := eq_false (by omega)
        go_wp2
        go_ret
        refine ⟨?_, below_step HB1.out HB.out⟩
        have e := HA.out
        rw [List.take_of_length_le (by omega)] at e
        rw [e]
        show Ending.returned (.bool (decide ((a0.size : Int) ≤ 253))) = _
        rw [Bool.true_and, show decide ((a0.size : Int) ≤ 253) = decide (a0.size ≤ 253) from decide_eq_decide.2 (by omega)]
/-! ### spec_NameKey: function 21 -/
def spec_NameKey.f (k : Nat) (a0 : ByteArray) : Option (Bool) := (spec_Split.f k a0 47).bind fun t114 => (if (t114.length : Int) = 2 then (if 0 < (t114.length : Int) then ((spec_NameDomain.f k (rdOf ByteArray.empty t114 0)).bind fun t118 => (if t118 = true then (if (t114.length : Int) > 2 then (some false) else (if 0 ≤ (wrap64 ((t114.length : Int) - 1)) then (if (wrap64 ((t114.length : Int) - 1)) < (t114.length : Int) then (if (rdOf ByteArray.empty t114 (wrap64 ((t114.length : Int) - 1))).toList = ([] : List UInt8) then (some false) else ((spec_NameValue.f (rdOf ByteArray.empty t114 (wrap64 ((t114.length : Int) - 1)))).bind fun t120 => (some t120))) else (none)) else (none))) else (some false))) else (none)) else (if (t114.length : Int) > 2 then (some false) else (if 0 ≤ (wrap64 ((t114.length : Int) - 1)) then (if (wrap64 ((t114.length : Int) - 1)) < (t114.length : Int) then (if (rdOf ByteArray.empty t114 (wrap64 ((t114.length : Int) - 1))).toList = ([] : List UInt8) then (some false) else ((spec_NameValue.f (rdOf ByteArray.empty t114 (wrap64 ((t114.length : Int) - 1)))).bind fun t122 => (some t122))) else (none)) else (none))))
theorem spec_NameKey.mono : ∀ a0 k, LeO (spec_NameKey.f k a0) (spec_NameKey.f (k + 1) a0) := by
  intro a0 k
  unfold spec_NameKey.f
  repeat' first
      | (with_reducible exact spec_NameDomain.mono _ _)
      | (with_reducible exact spec_Split.mono _ _ _)
      | (with_reducible exact LeO.refl _)
      | (with_reducible exact LeO.none _)
      | (with_reducible refine LeO.ite ?_ ?_)
      | (with_reducible refine LeO.bind ?_ (fun _ => ?_))
      | exact spec_NameDomain.mono _ _
      | exact spec_Split.mono _ _ _
      | exact LeO.none _
      | refine LeO.ite ?_ ?_
      | refine LeO.bind ?_ (fun _ => ?_)
set_option maxHeartbeats 8000000 in
set_option maxRecDepth 100000 in
theorem spec_NameKey.calls (k : Nat) (a0 : ByteArray) (r : Bool) (w : World) (h : spec_NameKey.f k a0 = some r) :
    Calls Tryd.prog 21 #[.string a0] w fun e w' => e = .returned (.bool r) ∧ Below w.heap.size w w' := by
  have HB := Aside0.mk (Below.refl w.heap.size w)
  have H : ((spec_Split.f k a0 47).bind fun t114 => (if (t114.length : Int) = 2 then (if 0 < (t114.length : Int) then ((spec_NameDomain.f k (rdOf ByteArray.empty t114 0)).bind fun t118 => (if t118 = true then (if (t114.length : Int) > 2 then (some false) else (if 0 ≤ (wrap64 ((t114.length : Int) - 1)) then (if (wrap64 ((t114.length : Int) - 1)) < (t114.length : Int) then (if (rdOf ByteArray.empty t114 (wrap64 ((t114.length : Int) - 1))).toList = ([] : List UInt8) then (some false) else ((spec_NameValue.f (rdOf ByteArray.empty t114 (wrap64 ((t114.length : Int) - 1)))).bind fun t120 => (some t120))) else (none)) else (none))) else (some false))) else (none)) else (if (t114.length : Int) > 2 then (some false) else (if 0 ≤ (wrap64 ((t114.length : Int) - 1)) then (if (wrap64 ((t114.length : Int) - 1)) < (t114.length : Int) then (if (rdOf ByteArray.empty t114 (wrap64 ((t114.length : Int) - 1))).toList = ([] : List UInt8) then (some false) else ((spec_NameValue.f (rdOf ByteArray.empty t114 (wrap64 ((t114.length : Int) - 1)))).bind fun t122 => (some t122))) else (none)) else (none))))) = some r := h
  clear h
  replace H := Option.bind_eq_some_iff.mp H
  obtain ⟨t114, A20, H⟩ := H
  replace H : (if (t114.length : Int) = 2 then (if 0 < (t114.length : Int) then ((spec_NameDomain.f k (rdOf ByteArray.empty t114 0)).bind fun t118 => (if t118 = true then (if (t114.length : Int) > 2 then (some false) else (if 0 ≤ (wrap64 ((t114.length : Int) - 1)) then (if (wrap64 ((t114.length : Int) - 1)) < (t114.length : Int) then (if (rdOf ByteArray.empty t114 (wrap64 ((t114.length : Int) - 1))).toList = ([] : List UInt8) then (some false) else ((spec_NameValue.f (rdOf ByteArray.empty t114 (wrap64 ((t114.length : Int) - 1)))).bind fun t120 => (some t120))) else (none)) else (none))) else (some false))) else (none)) else (if (t114.length : Int) > 2 then (some false) else (if 0 ≤ (wrap64 ((t114.length : Int) - 1)) then (if (wrap64 ((t114.length : Int) - 1)) < (t114.length : Int) then (if (rdOf ByteArray.empty t114 (wrap64 ((t114.length : Int) - 1))).toList = ([] : List UInt8) then (some false) else ((spec_NameValue.f (rdOf ByteArray.empty t114 (wrap64 ((t114.length : Int) - 1)))).bind fun t122 => (some t122))) else (none)) else (none)))) = some r := H
  have A2 := Aside0.mk A20
  clear A20
  by_cases c3 : (t114.length : Int) = 2
  · rw [if_pos c3] at H
    have c3b0 : ((t114.length : Int) == 2) = true := beq_iff_eq.mpr c3
    have c3b1 : ((t114.length : Int) != 2) = false := bne_eq_false_iff_eq.mpr c3
    clear c3
    by_cases c4 : 0 < (t114.length : Int)
    · rw [if_pos c4] at H
      have c4b0 : decide (0 < (t114.length : Int)) = true := decide_eq_true c4
      have c4b1 : decide (0 < t114.length) = true := decide_eq_true (by omega)
      clear c4
      replace H := Option.bind_eq_some_iff.mp H
      obtain ⟨t118, A50, H⟩ := H
      replace H : (if t118 = true then (if (t114.length : Int) > 2 then (some false) else (if 0 ≤ (wrap64 ((t114.length : Int) - 1)) then (if (wrap64 ((t114.length : Int) - 1)) < (t114.length : Int) then (if (rdOf ByteArray.empty t114 (wrap64 ((t114.length : Int) - 1))).toList = ([] : List UInt8) then (some false) else ((spec_NameValue.f (rdOf ByteArray.empty t114 (wrap64 ((t114.length : Int) - 1)))).bind fun t120 => (some t120))) else (none)) else (none))) else (some false)) = some r := H
      have A5 := Aside0.mk A50
      clear A50
      by_cases c6 : t118 = true
      · subst c6
        have H1 : (if (t114.length : Int) > 2 then (some false) else (if 0 ≤ (wrap64 ((t114.length : Int) - 1)) then (if (wrap64 ((t114.length : Int) - 1)) < (t114.length : Int) then (if (rdOf ByteArray.empty t114 (wrap64 ((t114.length : Int) - 1))).toList = ([] : List UInt8) then (some false) else ((spec_NameValue.f (rdOf ByteArray.empty t114 (wrap64 ((t114.length : Int) - 1)))).bind fun t120 => (some t120))) else (none)) else (none))) = some r := by rw [if_pos rfl] at H; exact H
        clear H
        have H := H1
        clear H1
        by_cases c7 : (t114.length : Int) > 2
        · rw [if_pos c7] at H
          have c7b0 : decide (2 < (t114.length : Int)) = true := decide_eq_true c7
          have c7b1 : decide (2 < t114.length) = true := decide_eq_true (by omega)
          clear c7
          obtain rfl := Option.some.inj H
          go_enter Tryd.func21, Tryd.ntmps21
          go_wp2_with (first | ((with_reducible refine gate_callee (f := 35) rfl ?_); refine goesL_ (some 6) rfl rfl Tryd.func35 (by kernel_rfl) rfl #[.string a0, .int .u8 47] rfl (by (try simp only [List.map_toArray, List.map_cons, List.map_nil]); first | done | rfl | (simp only [List.length_drop, List.length_take]; rfl)) ?_; (with_reducible refine (spec_Split.calls k a0 47 t114 _ A2.out).mono ?_); rintro e w8 ⟨v115, rfl, ho0, hb⟩; refine ⟨_, rfl, ?_⟩; have n0_ := Aside0.mk (Kd.R_lower ho0 (below_size (by repeat (first | (with_reducible first | exact HB.out | apply below_alloc | apply pw_below_drewN | apply below_drew1) | exact HB.out)))); have n1_ := Aside0.mk (below_step (by repeat (first | (with_reducible first | exact HB.out | apply below_alloc | apply pw_below_drewN | apply below_drew1) | exact HB.out)) hb); clear HB; have HO116 := n0_; have HB := n1_; clear n0_ n1_; (try clear hb); (try clear hb2); (try clear hk); (try clear hi); (try clear ho0); obtain ⟨Ao9, co9, eo9⟩ := Kd.R_slice HO116.out; subst eo9; have p117 : 0 ≤ (0 : Int) := (by omega); have q117 : 0 < (t114.length : Int) := of_decide_eq_true (by first | (with_reducible assumption) | assumption); obtain ⟨ad117, e117, hx117_0⟩ := Kd.at_string (Kd.R_reads' HO116.out).2.2 0 p117 q117; cases e117; have qi117 : (0 < t114.length) = True := eq_true (by omega); (try rw [show ((0 : Int)).toNat = 0 from rfl] at hx117_0); (try rw [Addr.add_zero'] at hx117_0); replace p117 := eq_true p117; replace q117 := eq_true q117) | (go_at_call 36; (with_reducible refine (spec_NameDomain.calls k (rdOf ByteArray.empty t114 0) true _ A5.out).mono ?_); rintro e w10 ⟨rfl, hb⟩; have n0_ := Aside0.mk (Kd.R_below (by (with_reducible repeat (first | apply Kd.R_alloc | apply Kd.R_drewN | apply Kd.R_drew)); exact HO116.out) hb); have n1_ := Aside0.mk (below_step (by repeat (first | (with_reducible first | exact HB.out | apply below_alloc | apply pw_below_drewN | apply below_drew1) | exact HB.out)) hb); clear HO116; clear HB; have HO116 := n0_; have HB := n1_; clear n0_ n1_; (try clear hb); (try clear hb2); (try clear hk); (try clear hi)))
          go_ret
          exact ⟨by first | rfl | (simp [errW_none, errW_some] <;> rfl) | (simp [*, errW_none, errW_some] <;> rfl) | (exfalso; contradiction), by repeat (first | (with_reducible first | exact HB.out | apply below_alloc | apply pw_below_drewN | apply below_drew1) | exact HB.out)⟩
        · rw [if_neg c7] at H
          have c7b0 : decide (2 < (t114.length : Int)) = false := decide_eq_false c7
          have c7b1 : decide (2 < t114.length) = false := decide_eq_false (by omega)
          clear c7
          obtain ⟨ji11, hji11⟩ : ∃ j_ : Int, (wrap64 ((t114.length : Int) - 1)) = j_ := ⟨_, rfl⟩
          replace H : (if 0 ≤ (ji11) then (if (ji11) < (t114.length : Int) then (if (rdOf ByteArray.empty t114 (ji11)).toList = ([] : List UInt8) then (some false) else ((spec_NameValue.f (rdOf ByteArray.empty t114 (ji11))).bind fun t120 => (some t120))) else (none)) else (none)) = some r := by first | (rw [hji11] at H; exact H) | (simp only [hji11] at H ⊢; exact H)
          (try rw [hji11] at A2)
          (try rw [hji11] at A5)
          have hji11w : (IntKind.i64.wrap ((t114.length : Int) - 1)) = ji11 := (i64_w _).trans hji11
          by_cases c12 : 0 ≤ (ji11)
          · rw [if_pos c12] at H
            have c12b0 : decide (0 ≤ (ji11)) = true := decide_eq_true c12
            clear c12
            by_cases c13 : (ji11) < (t114.length : Int)
            · rw [if_pos c13] at H
              have c13b0 : decide ((ji11) < (t114.length : Int)) = true := decide_eq_true c13
              clear c13
              by_cases c14 : (rdOf ByteArray.empty t114 (ji11)).toList = ([] : List UInt8)
              · rw [if_pos c14] at H
                have c14b0 : ((rdOf ByteArray.empty t114 (ji11)).toList == ([] : List UInt8)) = true := beq_iff_eq.mpr c14
                have c14b1 : ((rdOf ByteArray.empty t114 (ji11)).toList != ([] : List UInt8)) = false := bne_eq_false_iff_eq.mpr c14
                clear c14
                obtain rfl := Option.some.inj H
                go_enter Tryd.func21, Tryd.ntmps21
                go_wp2_with (first | ((with_reducible refine gate_callee (f := 35) rfl ?_); refine goesL_ (some 6) rfl rfl Tryd.func35 (by kernel_rfl) rfl #[.string a0, .int .u8 47] rfl (by (try simp only [List.map_toArray, List.map_cons, List.map_nil]); first | done | rfl | (simp only [List.length_drop, List.length_take]; rfl)) ?_; (with_reducible refine (spec_Split.calls k a0 47 t114 _ A2.out).mono ?_); rintro e w15 ⟨v115, rfl, ho0, hb⟩; refine ⟨_, rfl, ?_⟩; have n0_ := Aside0.mk (Kd.R_lower ho0 (below_size (by repeat (first | (with_reducible first | exact HB.out | apply below_alloc | apply pw_below_drewN | apply below_drew1) | exact HB.out)))); have n1_ := Aside0.mk (below_step (by repeat (first | (with_reducible first | exact HB.out | apply below_alloc | apply pw_below_drewN | apply below_drew1) | exact HB.out)) hb); clear HB; have HO116 := n0_; have HB := n1_; clear n0_ n1_; (try clear hb); (try clear hb2); (try clear hk); (try clear hi); (try clear ho0); obtain ⟨Ao16, co16, eo16⟩ := Kd.R_slice HO116.out; subst eo16; have p117 : 0 ≤ (0 : Int) := (by omega); have q117 : 0 < (t114.length : Int) := of_decide_eq_true (by first | (with_reducible assumption) | assumption); obtain ⟨ad117, e117, hx117_0⟩ := Kd.at_string (Kd.R_reads' HO116.out).2.2 0 p117 q117; cases e117; have qi117 : (0 < t114.length) = True := eq_true (by omega); (try rw [show ((0 : Int)).toNat = 0 from rfl] at hx117_0); (try rw [Addr.add_zero'] at hx117_0); replace p117 := eq_true p117; replace q117 := eq_true q117) | (go_at_call 36; (with_reducible refine (spec_NameDomain.calls k (rdOf ByteArray.empty t114 0) true _ A5.out).mono ?_); rintro e w17 ⟨rfl, hb⟩; have n0_ := Aside0.mk (Kd.R_below (by (with_reducible repeat (first | apply Kd.R_alloc | apply Kd.R_drewN | apply Kd.R_drew)); exact HO116.out) hb); have n1_ := Aside0.mk (below_step (by repeat (first | (with_reducible first | exact HB.out | apply below_alloc | apply pw_below_drewN | apply below_drew1) | exact HB.out)) hb); clear HO116; clear HB; have HO116 := n0_; have HB := n1_; clear n0_ n1_; (try clear hb); (try clear hb2); (try clear hk); (try clear hi); have p119 : 0 ≤ ((ji11) : Int) := of_decide_eq_true (by first | (with_reducible assumption) | assumption); have q119 : (ji11) < (t114.length : Int) := of_decide_eq_true (by first | (with_reducible assumption) | assumption); obtain ⟨ad119, e119, hx119_0⟩ := Kd.at_string (Kd.R_reads' HO116.out).2.2 (ji11) p119 q119; obtain rfl : ad117 = ad119 := (by injection e119); replace p119 := eq_true p119; replace q119 := eq_true q119))
                go_ret
                exact ⟨by first | rfl | (simp [errW_none, errW_some] <;> rfl) | (simp only [← hji11]; first | rfl | (simp [errW_none, errW_some] <;> rfl)) | (simp [*, errW_none, errW_some] <;> rfl), by repeat (first | (with_reducible first | exact HB.out | apply below_alloc | apply pw_below_drewN | apply below_drew1) | exact HB.out)⟩
              · rw [if_neg c14] at H
                have c14b0 : ((rdOf ByteArray.empty t114 (ji11)).toList == ([] : List UInt8)) = false := beq_eq_false_iff_ne.mpr c14
                have c14b1 : ((rdOf ByteArray.empty t114 (ji11)).toList != ([] : List UInt8)) = true := bne_iff_ne.mpr c14
                replace H := Option.bind_eq_some_iff.mp H
                obtain ⟨t120, A180, H⟩ := H
                replace H : (some t120) = some r := H
                have A18 := Aside0.mk A180
                clear A180
                obtain rfl := Option.some.inj H
                go_enter Tryd.func21, Tryd.ntmps21
                go_wp2_with (first | ((with_reducible refine gate_callee (f := 35) rfl ?_); refine goesL_ (some 6) rfl rfl Tryd.func35 (by kernel_rfl) rfl #[.string a0, .int .u8 47] rfl (by (try simp only [List.map_toArray, List.map_cons, List.map_nil]); first | done | rfl | (simp only [List.length_drop, List.length_take]; rfl)) ?_; (with_reducible refine (spec_Split.calls k a0 47 t114 _ A2.out).mono ?_); rintro e w19 ⟨v115, rfl, ho0, hb⟩; refine ⟨_, rfl, ?_⟩; have n0_ := Aside0.mk (Kd.R_lower ho0 (below_size (by repeat (first | (with_reducible first | exact HB.out | apply below_alloc | apply pw_below_drewN | apply below_drew1) | exact HB.out)))); have n1_ := Aside0.mk (below_step (by repeat (first | (with_reducible first | exact HB.out | apply below_alloc | apply pw_below_drewN | apply below_drew1) | exact HB.out)) hb); clear HB; have HO116 := n0_; have HB := n1_; clear n0_ n1_; (try clear hb); (try clear hb2); (try clear hk); (try clear hi); (try clear ho0); obtain ⟨Ao20, co20, eo20⟩ := Kd.R_slice HO116.out; subst eo20; have p117 : 0 ≤ (0 : Int) := (by omega); have q117 : 0 < (t114.length : Int) := of_decide_eq_true (by first | (with_reducible assumption) | assumption); obtain ⟨ad117, e117, hx117_0⟩ := Kd.at_string (Kd.R_reads' HO116.out).2.2 0 p117 q117; cases e117; have qi117 : (0 < t114.length) = True := eq_true (by omega); (try rw [show ((0 : Int)).toNat = 0 from rfl] at hx117_0); (try rw [Addr.add_zero'] at hx117_0); replace p117 := eq_true p117; replace q117 := eq_true q117) | (go_at_call 36; (with_reducible refine (spec_NameDomain.calls k (rdOf ByteArray.empty t114 0) true _ A5.out).mono ?_); rintro e w21 ⟨rfl, hb⟩; have n0_ := Aside0.mk (Kd.R_below (by (with_reducible repeat (first | apply Kd.R_alloc | apply Kd.R_drewN | apply Kd.R_drew)); exact HO116.out) hb); have n1_ := Aside0.mk (below_step (by repeat (first | (with_reducible first | exact HB.out | apply below_alloc | apply pw_below_drewN | apply below_drew1) | exact HB.out)) hb); clear HO116; clear HB; have HO116 := n0_; have HB := n1_; clear n0_ n1_; (try clear hb); (try clear hb2); (try clear hk); (try clear hi); have p119 : 0 ≤ ((ji11) : Int) := of_decide_eq_true (by first | (with_reducible assumption) | assumption); have q119 : (ji11) < (t114.length : Int) := of_decide_eq_true (by first | (with_reducible assumption) | assumption); obtain ⟨ad119, e119, hx119_0⟩ := Kd.at_string (Kd.R_reads' HO116.out).2.2 (ji11) p119 q119; obtain rfl : ad117 = ad119 := (by injection e119); replace p119 := eq_true p119; replace q119 := eq_true q119) | (go_at_call 22; (with_reducible refine (spec_NameValue.calls (rdOf ByteArray.empty t114 (ji11)) t120 _ A18.out).mono ?_); rintro e w22 ⟨rfl, hb⟩; have n0_ := Aside0.mk (Kd.R_below (by (with_reducible repeat (first | apply Kd.R_alloc | apply Kd.R_drewN | apply Kd.R_drew)); exact HO116.out) hb); have n1_ := Aside0.mk (below_step (by repeat (first | (with_reducible first | exact HB.out | apply below_alloc | apply pw_below_drewN | apply below_drew1) | exact HB.out)) hb); clear HO116; clear HB; have HO116 := n0_; have HB := n1_; clear n0_ n1_; (try clear hb); (try clear hb2); (try clear hk); (try clear hi)))
                go_ret
                exact ⟨by first | rfl | (simp [errW_none, errW_some] <;> rfl) | (simp only [← hji11]; first | rfl | (simp [errW_none, errW_some] <;> rfl)) | (simp [*, errW_none, errW_some] <;> rfl), by repeat (first | (with_reducible first | exact HB.out | apply below_alloc | apply pw_below_drewN | apply below_drew1) | exact HB.out)⟩
            · rw [if_neg c13] at H
              exact absurd H (by simp)
          · rw [if_neg c12] at H
            exact absurd H (by simp)
      · replace c6 := Bool.eq_false_iff.mpr c6
        subst c6
        have H1 : (some false) = some r := by rw [if_neg (show ¬ (false = true) by decide)] at H; exact H
        clear H
        have H := H1
        clear H1
        obtain rfl := Option.some.inj H
        go_enter Tryd.func21, Tryd.ntmps21
        go_wp2_with (first | ((with_reducible refine gate_callee (f := 35) rfl ?_); refine goesL_ (some 6) rfl rfl Tryd.func35 (by kernel_rfl) rfl #[.string a0, .int .u8 47] rfl (by (try simp only [List.map_toArray, List.map_cons, List.map_nil]); first | done | rfl | (simp only [List.length_drop, List.length_take]; rfl)) ?_; (with_reducible refine (spec_Split.calls k a0 47 t114 _ A2.out).mono ?_); rintro e w23 ⟨v115, rfl, ho0, hb⟩; refine ⟨_, rfl, ?_⟩; have n0_ := Aside0.mk (Kd.R_lower ho0 (below_size (by repeat (first | (with_reducible first | exact HB.out | apply below_alloc | apply pw_below_drewN | apply below_drew1) | exact HB.out)))); have n1_ := Aside0.mk (below_step (by repeat (first | (with_reducible first | exact HB.out | apply below_alloc | apply pw_below_drewN | apply below_drew1) | exact HB.out)) hb); clear HB; have HO116 := n0_; have HB := n1_; clear n0_ n1_; (try clear hb); (try clear hb2); (try clear hk); (try clear hi); (try clear ho0); obtain ⟨Ao24, co24, eo24⟩ := Kd.R_slice HO116.out; subst eo24; have p117 : 0 ≤ (0 : Int) := (by omega); have q117 : 0 < (t114.length : Int) := of_decide_eq_true (by first | (with_reducible assumption) | assumption); obtain ⟨ad117, e117, hx117_0⟩ := Kd.at_string (Kd.R_reads' HO116.out).2.2 0 p117 q117; cases e117; have qi117 : (0 < t114.length) = True := eq_true (by omega); (try rw [show ((0 : Int)).toNat = 0 from rfl] at hx117_0); (try rw [Addr.add_zero'] at hx117_0); replace p117 := eq_true p117; replace q117 := eq_true q117) | (go_at_call 36; (with_reducible refine (spec_NameDomain.calls k (rdOf ByteArray.empty t114 0) false _ A5.out).mono ?_); rintro e w25 ⟨rfl, hb⟩; have n0_ := Aside0.mk (Kd.R_below (by (with_reducible repeat (first | apply Kd.R_alloc | apply Kd.R_drewN | apply Kd.R_drew)); exact HO116.out) hb); have n1_ := Aside0.mk (below_step (by repeat (first | (with_reducible first | exact HB.out | apply below_alloc | apply pw_below_drewN | apply below_drew1) | exact HB.out)) hb); clear HO116; clear HB; have HO116 := n0_; have HB := n1_; clear n0_ n1_; (try clear hb); (try clear hb2); (try clear hk); (try clear hi)))
        go_ret
        exact ⟨by first | rfl | (simp [errW_none, errW_some] <;> rfl) | (simp [*, errW_none, errW_some] <;> rfl) | (exfalso; contradiction), by repeat (first | (with_reducible first | exact HB.out | apply below_alloc | apply pw_below_drewN | apply below_drew1) | exact HB.out)⟩
    · rw [if_neg c4] at H
      exact absurd H (by simp)
  · rw [if_neg c3] at H
    have c3b0 : ((t114.length : Int) == 2) = false := beq_eq_false_iff_ne.mpr c3
    have c3b1 : ((t114.length : Int) != 2) = true := bne_iff_ne.mpr c3
    by_cases c26 : (t114.length : Int) > 2
    · rw [if_pos c26] at H
      have c26b0 : decide (2 < (t114.length : Int)) = true := decide_eq_true c26
      have c26b1 : decide (2 < t114.length) = true := decide_eq_true (by omega)
      clear c26
      obtain rfl := Option.some.inj H
      go_enter Tryd.func21, Tryd.ntmps21
      go_wp2_with (first | ((with_reducible refine gate_callee (f := 35) rfl ?_); refine goesL_ (some 6) rfl rfl Tryd.func35 (by kernel_rfl) rfl #[.string a0, .int .u8 47] rfl (by (try simp only [List.map_toArray, List.map_cons, List.map_nil]); first | done | rfl | (simp only [List.length_drop, List.length_take]; rfl)) ?_; (with_reducible refine (spec_Split.calls k a0 47 t114 _ A2.out).mono ?_); rintro e w27 ⟨v115, rfl, ho0, hb⟩; refine ⟨_, rfl, ?_⟩; have n0_ := Aside0.mk (Kd.R_lower ho0 (below_size (by repeat (first | (with_reducible first | exact HB.out | apply below_alloc | apply pw_below_drewN | apply below_drew1) | exact HB.out)))); have n1_ := Aside0.mk (below_step (by repeat (first | (with_reducible first | exact HB.out | apply below_alloc | apply pw_below_drewN | apply below_drew1) | exact HB.out)) hb); clear HB; have HO116 := n0_; have HB := n1_; clear n0_ n1_; (try clear hb); (try clear hb2); (try clear hk); (try clear hi); (try clear ho0); obtain ⟨Ao28, co28, eo28⟩ := Kd.R_slice HO116.out; subst eo28))
      go_ret
      exact ⟨by first | rfl | (simp [errW_none, errW_some] <;> rfl) | (simp [*, errW_none, errW_some] <;> rfl) | (exfalso; contradiction), by repeat (first | (with_reducible first | exact HB.out | apply below_alloc | apply pw_below_drewN | apply below_drew1) | exact HB.out)⟩
    · rw [if_neg c26] at H
      have c26b0 : decide (2 < (t114.length : Int)) = false := decide_eq_false c26
      have c26b1 : decide (2 < t114.length) = false := decide_eq_false (by omega)
      clear c26
      obtain ⟨ji29, hji29⟩ : ∃ j_ : Int, (wrap64 ((t114.length : Int) - 1)) = j_ := ⟨_, rfl⟩
      replace H : (if 0 ≤ (ji29) then (if (ji29) < (t114.length : Int) then (if (rdOf ByteArray.empty t114 (ji29)).toList = ([] : List UInt8) then (some false) else ((spec_NameValue.f (rdOf ByteArray.empty t114 (ji29))).bind fun t122 => (some t122))) else (none)) else (none)) = some r := by first | (rw [hji29] at H; exact H) | (simp only [hji29] at H ⊢; exact H)
      (try rw [hji29] at A2)
      have hji29w : (IntKind.i64.wrap ((t114.length : Int) - 1)) = ji29 := (i64_w _).trans hji29
      by_cases c30 : 0 ≤ (ji29)
      · rw [if_pos c30] at H
        have c30b0 : decide (0 ≤ (ji29)) = true := decide_eq_true c30
        clear c30
        by_cases c31 : (ji29) < (t114.length : Int)
        · rw [if_pos c31] at H
          have c31b0 : decide ((ji29) < (t114.length : Int)) = true := decide_eq_true c31
          clear c31
          by_cases c32 : (rdOf ByteArray.empty t114 (ji29)).toList = ([] : List UInt8)
          · rw [if_pos c32] at H
            have c32b0 : ((rdOf ByteArray.empty t114 (ji29)).toList == ([] : List UInt8)) = true := beq_iff_eq.mpr c32
            have c32b1 : ((rdOf ByteArray.empty t114 (ji29)).toList != ([] : List UInt8)) = false := bne_eq_false_iff_eq.mpr c32
            clear c32
            obtain rfl := Option.some.inj H
            go_enter Tryd.func21, Tryd.ntmps21
            go_wp2_with (first | ((with_reducible refine gate_callee (f := 35) rfl ?_); refine goesL_ (some 6) rfl rfl Tryd.func35 (by kernel_rfl) rfl #[.string a0, .int .u8 47] rfl (by (try simp only [List.map_toArray, List.map_cons, List.map_nil]); first | done | rfl | (simp only [List.length_drop, List.length_take]; rfl)) ?_; (with_reducible refine (spec_Split.calls k a0 47 t114 _ A2.out).mono ?_); rintro e w33 ⟨v115, rfl, ho0, hb⟩; refine ⟨_, rfl, ?_⟩; have n0_ := Aside0.mk (Kd.R_lower ho0 (below_size (by repeat (first | (with_reducible first | exact HB.out | apply below_alloc | apply pw_below_drewN | apply below_drew1) | exact HB.out)))); have n1_ := Aside0.mk (below_step (by repeat (first | (with_reducible first | exact HB.out | apply below_alloc | apply pw_below_drewN | apply below_drew1) | exact HB.out)) hb); clear HB; have HO116 := n0_; have HB := n1_; clear n0_ n1_; (try clear hb); (try clear hb2); (try clear hk); (try clear hi); (try clear ho0); obtain ⟨Ao34, co34, eo34⟩ := Kd.R_slice HO116.out; subst eo34; have p121 : 0 ≤ ((ji29) : Int) := of_decide_eq_true (by first | (with_reducible assumption) | assumption); have q121 : (ji29) < (t114.length : Int) := of_decide_eq_true (by first | (with_reducible assumption) | assumption); obtain ⟨ad121, e121, hx121_0⟩ := Kd.at_string (Kd.R_reads' HO116.out).2.2 (ji29) p121 q121; cases e121; replace p121 := eq_true p121; replace q121 := eq_true q121))
            go_ret
            exact ⟨by first | rfl | (simp [errW_none, errW_some] <;> rfl) | (simp only [← hji29]; first | rfl | (simp [errW_none, errW_some] <;> rfl)) | (simp [*, errW_none, errW_some] <;> rfl), by repeat (first | (with_reducible first | exact HB.out | apply below_alloc | apply pw_below_drewN | apply below_drew1) | exact HB.out)⟩
          · rw [if_neg c32] at H
            have c32b0 : ((rdOf ByteArray.empty t114 (ji29)).toList == ([] : List UInt8)) = false := beq_eq_false_iff_ne.mpr c32
            have c32b1 : ((rdOf ByteArray.empty t114 (ji29)).toList != ([] : List UInt8)) = true := bne_iff_ne.mpr c32
            replace H := Option.bind_eq_some_iff.mp H
            obtain ⟨t122, A350, H⟩ := H
            replace H : (some t122) = some r := H
            have A35 := Aside0.mk A350
            clear A350
            obtain rfl := Option.some.inj H
            go_enter Tryd.func21, Tryd.ntmps21
            go_wp2_with (first | ((with_reducible refine gate_callee (f := 35) rfl ?_); refine goesL_ (some 6) rfl rfl Tryd.func35 (by kernel_rfl) rfl #[.string a0, .int .u8 47] rfl (by (try simp only [List.map_toArray, List.map_cons, List.map_nil]); first | done | rfl | (simp only [List.length_drop, List.length_take]; rfl)) ?_; (with_reducible refine (spec_Split.calls k a0 47 t114 _ A2.out).mono ?_); rintro e w36 ⟨v115, rfl, ho0, hb⟩; refine ⟨_, rfl, ?_⟩; have n0_ := Aside0.mk (Kd.R_lower ho0 (below_size (by repeat (first | (with_reducible first | exact HB.out | apply below_alloc | apply pw_below_drewN | apply below_drew1) | exact HB.out)))); have n1_ := Aside0.mk (below_step (by repeat (first | (with_reducible first | exact HB.out | apply below_alloc | apply pw_below_drewN | apply below_drew1) | exact HB.out)) hb); clear HB; have HO116 := n0_; have HB := n1_; clear n0_ n1_; (try clear hb); (try clear hb2); (try clear hk); (try clear hi); (try clear ho0); obtain ⟨Ao37, co37, eo37⟩ := Kd.R_slice HO116.out; subst eo37; have p121 : 0 ≤ ((ji29) : Int) := of_decide_eq_true (by first | (with_reducible assumption) | assumption); have q121 : (ji29) < (t114.length : Int) := of_decide_eq_true (by first | (with_reducible assumption) | assumption); obtain ⟨ad121, e121, hx121_0⟩ := Kd.at_string (Kd.R_reads' HO116.out).2.2 (ji29) p121 q121; cases e121; replace p121 := eq_true p121; replace q121 := eq_true q121) | (go_at_call 22; (with_reducible refine (spec_NameValue.calls (rdOf ByteArray.empty t114 (ji29)) t122 _ A35.out).mono ?_); rintro e w38 ⟨rfl, hb⟩; have n0_ := Aside0.mk (Kd.R_below (by (with_reducible repeat (first | apply Kd.R_alloc | apply Kd.R_drewN | apply Kd.R_drew)); exact HO116.out) hb); have n1_ := Aside0.mk (below_step (by repeat (first | (with_reducible first | exact HB.out | apply below_alloc | apply pw_below_drewN | apply below_drew1) | exact HB.out)) hb); clear HO116; clear HB; have HO116 := n0_; have HB := n1_; clear n0_ n1_; (try clear hb); (try clear hb2); (try clear hk); (try clear hi)))
            go_ret
            exact ⟨by first | rfl | (simp [errW_none, errW_some] <;> rfl) | (simp only [← hji29]; first | rfl | (simp [errW_none, errW_some] <;> rfl)) | (simp [*, errW_none, errW_some] <;> rfl), by repeat (first | (with_reducible first | exact HB.out | apply below_alloc | apply pw_below_drewN | apply below_drew1) | exact HB.out)⟩
        · rw [if_neg c31] at H
          exact absurd H (by simp)
      · rw [if_neg c30] at H
        exact absurd H (by simp)

end Go.Proofs.YtlhbmifffmegeaaDoor.PFnNeedMatch
