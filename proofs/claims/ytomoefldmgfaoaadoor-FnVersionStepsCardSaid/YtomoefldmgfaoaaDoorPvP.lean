/- Versions: the walks below the reading of a version. -/
import Derived.Test.YtomoefldmgfaoaaDoorPvE
import Derived.Test.YtomoefldmgfaoaaDoorShelf
import Derived.WalkKit
import Derived.WalkMore
import Derived.KernelRfl
import Derived.Shelf.SlSortCmp.QuietGrown
import Derived.Deep.QuietTactic
import Derived.BigQuiet
import Derived.Lib.ItoaMem
import Derived.Lib.AppendIntMem
set_option linter.unusedVariables false
set_option linter.unusedSimpArgs false
namespace Go.Proofs.YtomoefldmgfaoaaDoor.Pv
open Go Go.RowKit Go.Proofs.YtomoefldmgfaoaaDoor Go.Proofs.YtomoefldmgfaoaaDoorW.PrintWords Go.Proofs.YtomoefldmgfaoaaDoor.PvH Go.Proofs.YtomoefldmgfaoaaDoor.Txt Go.Proofs.YtomoefldmgfaoaaDoor.Small

def Ers (v : Value) : Prop := v = .nilIface ∨ ∃ te pe, v = .iface te pe
/-- What the program's variables hold. -/
def Good (w : World) : Prop := (∃ ev, w.cell? ⟨3, 0, none⟩ = some ev ∧ Ers ev) ∧ (∃ ev, w.cell? ⟨4, 0, none⟩ = some ev ∧ Ers ev) ∧ Lib.TabIs Tryd.prog w "internal/strconv.uint64pow10" .u64 Lib.pow10Tab
theorem Good.below {w w' : World} (h : Good w) (hb : Below w.heap.size w w') : Good w' := by
  obtain ⟨⟨e, h1, h2⟩, ⟨e', h3, h4⟩, h5⟩ := h
  exact ⟨⟨e, pw_cell_below hb h1, h2⟩, ⟨e', pw_cell_below hb h3, h4⟩, Lib.tabBelow_of_tabIs h5 _ hb⟩
theorem size_mk (l : Bs) : (mk l).size = l.length := by rw [size_len]
theorem Lb_mk (l : Bs) : Lb (mk l) = l := rfl
set_option maxHeartbeats 4000000 in
set_option maxRecDepth 100000 in
theorem pu_ok (s : ByteArray) (hs : s.size ≤ 281474976710656) (u : Nat) (h : vn (Lb s) = some u) (w : World) :
    Calls Tryd.prog 97 #[.string s, .int .i64 10, .int .i64 0] w fun e w' => e = .returned (.tuple #[.int .u64 (u : Int), .nilIface]) ∧ Below w.heap.size w w' := by
  have mixed : Tryd.prog.follows .mixedOrders = true := by kernel_rfl
  have hI := Tryd.internal_strconv_ParseUint_10_any s (by omega) w
  have hm : Lib.uintTuple 132 (Lib.parseMag s.data.toList) = .tuple #[.int .u64 (u : Int), .nilIface] := by
    unfold vn at h
    cases hp : Lib.parseMag (Lb s) with
    | ok v => rw [hp] at h; injection h with h; rw [h]; rfl
    | _ => rw [hp] at h; cases h
  rw [hm] at hI
  have HI := Aside0.mk hI
  clear hI hm h
  go_enter Tryd.func97, Tryd.ntmps97
  go_wp2_with (go_at_call 115; refine HI.out.mono ?_; rintro e W1 ⟨rfl, hW⟩)
  go_wp2
  go_ret2
  refine ⟨rfl, ?_⟩
  rcases hW with rfl | rfl
  · exact Below.refl _ _
  · exact Lib.bytesWorld_below _ _ _
set_option maxHeartbeats 4000000 in
set_option maxRecDepth 100000 in
theorem pu_no (s : ByteArray) (hs : s.size ≤ 281474976710656) (h : vn (Lb s) = none) (w : World) (hg : Good w) :
    Calls Tryd.prog 97 #[.string s, .int .i64 10, .int .i64 0] w fun e w' => (∃ x T y, e = .returned (.tuple #[.int .u64 x, .iface T y])) ∧ Below w.heap.size w w' := by
  have mixed : Tryd.prog.follows .mixedOrders = true := by kernel_rfl
  obtain ⟨⟨ev, v1, k1⟩, ⟨ev', v2, k2⟩, -⟩ := hg
  have hI := Tryd.internal_strconv_ParseUint_10_any s (by omega) w
  have hm : Lib.uintTuple 132 (Lib.parseMag s.data.toList) = .tuple #[.int .u64 0, .iface 132 (.int .i64 2)] ∨ Lib.uintTuple 132 (Lib.parseMag s.data.toList) = .tuple #[.int .u64 18446744073709551615, .iface 132 (.int .i64 1)] := by
    unfold vn at h
    rcases hp : Lib.parseMag (Lb s) with v | _ | _
    · rw [hp] at h; cases h
    · exact Or.inl rfl
    · exact Or.inr rfl
  have hb : ∀ w', (w' = w ∨ w' = Lib.bytesWorld w 5 s) → Below w.heap.size w w' := by
    rintro w' (rfl | rfl)
    · exact Below.refl _ _
    · exact Lib.bytesWorld_below _ _ _
  have HB := Aside0.mk hb
  have K1 := Aside0.mk v1
  have K2 := Aside0.mk v2
  have E1 := Aside0.mk k1
  have E2 := Aside0.mk k2
  rcases hm with hm | hm
  all_goals
    rw [hm] at hI
    have HI := Aside0.mk hI
    clear hI hm h hb v1 v2 k1 k2
    go_enter Tryd.func97, Tryd.ntmps97
    go_wp2_with (go_at_call 115; refine HI.out.mono ?_; rintro e W1 ⟨rfl, hW⟩)
    have B1 := Aside0.mk (HB.out _ hW)
    clear hW
  · go_wp2_with (go_at_call 102; refine (Tryd.strconv_toError_syntax _ s 10 0 _ _ hs (pw_cell_below B1.out K1.out) E1.out).mono ?_; rintro e W2 ⟨N, rfl, h1, h2, h3⟩)
    go_ret2
    exact ⟨⟨_, _, _, rfl⟩, below_step B1.out h3⟩
  · go_wp2_with (go_at_call 102; refine (Tryd.strconv_toError_range _ s 10 0 _ _ hs (pw_cell_below B1.out K2.out) E2.out).mono ?_; rintro e W2 ⟨N, rfl, h1, h2, h3⟩)
    go_ret2
    exact ⟨⟨_, _, _, rfl⟩, below_step B1.out h3⟩
/-- Whether a text begins with a nought. -/
theorem prefix_f (s : ByteArray) : strings_HasPrefix.f s ⟨#[48]⟩ = some ((Lb s).head? == some 48) := by
  have h1 : ((⟨#[48]⟩ : ByteArray).size : Int) = 1 := rfl
  have hsz : s.size = (Lb s).length := size_len s
  have hl : (⟨#[48]⟩ : ByteArray).toList = [48] := by rw [toL]
  unfold strings_HasPrefix.f stringslite_HasPrefix.f
  rw [h1]
  cases hc : Lb s with
  | nil =>
    have : s.size = 0 := by rw [hsz, hc]; rfl
    rw [if_neg (by omega)]; rfl
  | cons c t =>
    have h2 : s.size = t.length + 1 := by rw [hsz, hc]; rfl
    rw [if_pos (by omega), if_pos (by omega), if_pos (by omega), Option.bind_some, hl, show (1 : Int).toNat = 1 from rfl, toL, data_extract, show s.data.toList = c :: t from hc]
    congr 1
    rw [List.drop_zero, Nat.sub_zero, List.take_succ_cons, List.take_zero, List.head?_cons]
    by_cases e : c = 48
    · rw [e]; rfl
    · rw [beq_eq_false_iff_ne.2 (show [c] ≠ [48] by simpa using e), beq_eq_false_iff_ne.2 (show some c ≠ some 48 by simpa using e)]
theorem prefix_calls (s : ByteArray) (w : World) : Calls Tryd.prog 96 #[.string s, .string ⟨#[48]⟩] w fun e w' => e = .returned (.bool ((Lb s).head? == some 48)) ∧ Drawn0 w w' := strings_HasPrefix.calls s ⟨#[48]⟩ _ w (prefix_f s)
end Go.Proofs.YtomoefldmgfaoaaDoor.Pv
