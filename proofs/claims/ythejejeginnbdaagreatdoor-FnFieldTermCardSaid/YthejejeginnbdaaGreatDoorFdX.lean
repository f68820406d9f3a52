/- A selector of one term: impl.FieldTerm. -/
import Derived.Test.YthejejeginnbdaaGreatDoorFdH
import Derived.Test.YthejejeginnbdaaGreatDoorFdM
set_option linter.unusedVariables false
set_option linter.unusedSimpArgs false
namespace Go.Proofs.YthejejeginnbdaaGreatDoor.Fd
open Go Go.RowKit Go.Maps Go.Proofs.YthejejeginnbdaaGreatDoorW.PrintWords Go.Proofs.YthejejeginnbdaaGreatDoor.Txt Go.Proofs.YthejejeginnbdaaGreatDoor Go.Proofs.YthejejeginnbdaaGreatDoor.PFnFieldTerm Go.Proofs.YthejejeginnbdaaGreatDoor.EscN Go.Proofs.YthejejeginnbdaaGreatDoor.FdN Go.Proofs.YthejejeginnbdaaGreatDoor.FdC Go.Proofs.YthejejeginnbdaaGreatDoor.FdS Go.Proofs.YthejejeginnbdaaGreatDoor.FdU

theorem ne_any (k v : ByteArray) (w : World) : Calls Tryz.prog 17 #[.string k, .string v] w fun e w' => (∃ g, e = .returned (.iface 71 (.pointer (some ⟨g, 0, none⟩))) ∧ TermAt w' (false, g) (false, k, v)) ∧ Below w.heap.size w w' := by
  go_enter Tryz.func17, Tryz.ntmps17
  go_wp2
  go_ret
  exact ⟨⟨w.heap.size, rfl, rfl, blk_new w _⟩, below_alloc (Below.refl _ _) _⟩
theorem eq_any (k v : ByteArray) (w : World) : Calls Tryz.prog 18 #[.string k, .string v] w fun e w' => (∃ g, e = .returned (.iface 74 (.pointer (some ⟨g, 0, none⟩))) ∧ TermAt w' (true, g) (true, k, v)) ∧ Below w.heap.size w w' := by
  go_enter Tryz.func18, Tryz.ntmps18
  go_wp2
  go_ret
  exact ⟨⟨w.heap.size, rfl, rfl, blk_new w _⟩, below_alloc (Below.refl _ _) _⟩

set_option maxRecDepth 1000000 in
set_option maxHeartbeats 12800000 in
theorem fieldTerm_true (k v : ByteArray) (hk : k.size ≤ 2147483647) (hv : v.size ≤ 2147483647) (A1 : Option Addr) (c1 : Nat) (L : List S43) (w : World) (hr : Kd.C k43 w A1 L.length L) (hl : L.length ≤ 4294967296) (hls : ∀ x ∈ L, x.f0.size ≤ 4294967296 ∧ x.f1.size ≤ 4294967296) :
    Calls Tryz.prog 7 #[.bool true, .string k, .string v, .slice A1 L.length c1] w fun e w' => (∃ A c, e = .returned (.tuple #[.slice A 1 c, .string (txt (true, k, v)), .bool (matchT L (true, k, v))]) ∧ kT.C w' A 1 [tmD (true, k, v)] ∧ 1 ≤ c) ∧ Below w.heap.size w w' := by
  have mixed : Tryz.prog.follows .mixedOrders = true := by kernel_rfl
  have HLB := Aside0.mk (fun (w1 : World) (x : Below w.heap.size w w1) => fieldSet_any A1 c1 L w1 (Kd.C_below hr x) hl hls)
  have HK := Aside0.mk hk
  have HV := Aside0.mk hv
  clear hr hl hls hk hv
  go_enter Tryz.func7, Tryz.ntmps7
  go_wp2_with (first
    | (go_at_call 17; (with_reducible refine (ne_any _ _ _).mono ?_); rintro e w0 ⟨⟨g0, rfl, hta⟩, hb⟩; have B0 := Aside0.mk hb; clear hb hta)
    | (go_at_call 18; (with_reducible refine (eq_any _ _ _).mono ?_); rintro e w1 ⟨⟨g, rfl, hta⟩, hb⟩; have B2 := Aside0.mk (below_step B0.out hb); have TA := Aside0.mk hta; clear hb hta))
  have na1 := na_Matches_true g
  have me1 := me_Matches_true g
  have na2 := na_String_true g
  have me2 := me_String_true g
  have HTM : Aside0 (∀ w' : World, Below w1.heap.size w1 w' → Calls Tryz.prog 19 #[.iface 74 (.pointer (some ⟨g, 0, none⟩))] w' fun e w'' => ToldD w' w'' e [tmD (true, k, v)]) := ⟨fun w' x => terms_true g k v w' (TA.out.below x)⟩
  have HTX : Aside0 (∀ w' : World, Below w1.heap.size w1 w' → Calls Tryz.prog 111 #[.pointer (some ⟨g, 0, none⟩)] w' fun e w'' => e = .returned (.string (txt (true, k, v))) ∧ Below w'.heap.size w' w'') := ⟨fun w' x => text_true g k v w' (TA.out.below x) HK.out HV.out⟩
  have HMA : Aside0 (∀ (b n : Nat) (w' : World), Below w1.heap.size w1 w' → IsMapS w' b n L → Calls Tryz.prog 108 #[.pointer (some ⟨g, 0, none⟩), .iface 53 (.map (some b))] w' fun e w'' => e = .returned (.bool (matchT L (true, k, v))) ∧ Below w'.heap.size w' w'') := ⟨fun b n w' x hm => matches_true g k v b n L w' (TA.out.below x) hm (by have := HK.out; unfold maxLen; omega)⟩
  clear TA HK HV
  go_region_held3 (fun _ => True) (exact trivial)
    (first
      | (go_at_call 19; (with_reducible refine (HTM.out _ (below_drew1 (Below.refl w1.heap.size w1))).mono ?_); rintro e w3 ⟨⟨A, c, he, hc, hl⟩, hb⟩; replace he : e = .returned (.slice A 1 c) := he; subst he; have B3 := Aside0.mk (below_step (below_drew1 (Below.refl w1.heap.size w1)) hb); have C3 := Aside0.mk hc; have L3 := Aside0.mk hl; clear hb hc hl)
      | (go_at_call 111; (with_reducible refine (HTX.out _ B3.out).mono ?_); rintro e w4 ⟨rfl, hb⟩; have B4 := Aside0.mk (below_step B3.out hb); have C4 := Aside0.mk (Kd.C_below C3.out hb); clear hb)
      | (go_at_call 20; (with_reducible refine (HLB.out _ (below_step B2.out B4.out)).mono ?_); rintro e w5 ⟨b, rfl, hm, hb⟩; have B5 := Aside0.mk (below_step B4.out hb); have C5 := Aside0.mk (Kd.C_below C4.out hb); have HMP := Aside0.mk hm; clear hb hm)
      | (go_at_call 108; (with_reducible refine (HMA.out _ _ _ B5.out HMP.out).mono ?_); rintro e w6 ⟨rfl, hb⟩; have B6 := Aside0.mk (below_step B5.out hb); have C6 := Aside0.mk (Kd.C_below C5.out hb); clear hb))
  all_goals go_wp2
  all_goals go_ret3
  all_goals exact ⟨⟨A, c, rfl, C6.out, L3.out⟩, below_step B2.out B6.out⟩

set_option maxRecDepth 1000000 in
set_option maxHeartbeats 12800000 in
theorem fieldTerm_false (k v : ByteArray) (hk : k.size ≤ 2147483647) (hv : v.size ≤ 2147483647) (A1 : Option Addr) (c1 : Nat) (L : List S43) (w : World) (hr : Kd.C k43 w A1 L.length L) (hl : L.length ≤ 4294967296) (hls : ∀ x ∈ L, x.f0.size ≤ 4294967296 ∧ x.f1.size ≤ 4294967296) :
    Calls Tryz.prog 7 #[.bool false, .string k, .string v, .slice A1 L.length c1] w fun e w' => (∃ A c, e = .returned (.tuple #[.slice A 1 c, .string (txt (false, k, v)), .bool (matchT L (false, k, v))]) ∧ kT.C w' A 1 [tmD (false, k, v)] ∧ 1 ≤ c) ∧ Below w.heap.size w w' := by
  have mixed : Tryz.prog.follows .mixedOrders = true := by kernel_rfl
  have HLB := Aside0.mk (fun (w1 : World) (x : Below w.heap.size w w1) => fieldSet_any A1 c1 L w1 (Kd.C_below hr x) hl hls)
  have HK := Aside0.mk hk
  have HV := Aside0.mk hv
  clear hr hl hls hk hv
  go_enter Tryz.func7, Tryz.ntmps7
  go_wp2_with (first
    | (go_at_call 17; (with_reducible refine (ne_any _ _ _).mono ?_); rintro e w1 ⟨⟨g, rfl, hta⟩, hb⟩; have B2 := Aside0.mk hb; have TA := Aside0.mk hta; clear hb hta))
  have na1 := na_Matches_false g
  have me1 := me_Matches_false g
  have na2 := na_String_false g
  have me2 := me_String_false g
  have HTM : Aside0 (∀ w' : World, Below w1.heap.size w1 w' → Calls Tryz.prog 19 #[.iface 71 (.pointer (some ⟨g, 0, none⟩))] w' fun e w'' => ToldD w' w'' e [tmD (false, k, v)]) := ⟨fun w' x => terms_false g k v w' (TA.out.below x)⟩
  have HTX : Aside0 (∀ w' : World, Below w1.heap.size w1 w' → Calls Tryz.prog 102 #[.pointer (some ⟨g, 0, none⟩)] w' fun e w'' => e = .returned (.string (txt (false, k, v))) ∧ Below w'.heap.size w' w'') := ⟨fun w' x => text_false g k v w' (TA.out.below x) HK.out HV.out⟩
  have HMA : Aside0 (∀ (b n : Nat) (w' : World), Below w1.heap.size w1 w' → IsMapS w' b n L → Calls Tryz.prog 99 #[.pointer (some ⟨g, 0, none⟩), .iface 53 (.map (some b))] w' fun e w'' => e = .returned (.bool (matchT L (false, k, v))) ∧ Below w'.heap.size w' w'') := ⟨fun b n w' x hm => matches_false g k v b n L w' (TA.out.below x) hm (by have := HK.out; unfold maxLen; omega)⟩
  clear TA HK HV
  go_region_held3 (fun _ => True) (exact trivial)
    (first
      | (go_at_call 19; (with_reducible refine (HTM.out _ (below_drew1 (Below.refl w1.heap.size w1))).mono ?_); rintro e w3 ⟨⟨A, c, he, hc, hl⟩, hb⟩; replace he : e = .returned (.slice A 1 c) := he; subst he; have B3 := Aside0.mk (below_step (below_drew1 (Below.refl w1.heap.size w1)) hb); have C3 := Aside0.mk hc; have L3 := Aside0.mk hl; clear hb hc hl)
      | (go_at_call 102; (with_reducible refine (HTX.out _ B3.out).mono ?_); rintro e w4 ⟨rfl, hb⟩; have B4 := Aside0.mk (below_step B3.out hb); have C4 := Aside0.mk (Kd.C_below C3.out hb); clear hb)
      | (go_at_call 20; (with_reducible refine (HLB.out _ (below_step B2.out B4.out)).mono ?_); rintro e w5 ⟨b, rfl, hm, hb⟩; have B5 := Aside0.mk (below_step B4.out hb); have C5 := Aside0.mk (Kd.C_below C4.out hb); have HMP := Aside0.mk hm; clear hb hm)
      | (go_at_call 99; (with_reducible refine (HMA.out _ _ _ B5.out HMP.out).mono ?_); rintro e w6 ⟨rfl, hb⟩; have B6 := Aside0.mk (below_step B5.out hb); have C6 := Aside0.mk (Kd.C_below C5.out hb); clear hb))
  all_goals go_wp2
  all_goals go_ret3
  all_goals exact ⟨⟨A, c, rfl, C6.out, L3.out⟩, below_step B2.out B6.out⟩
end Go.Proofs.YthejejeginnbdaaGreatDoor.Fd
