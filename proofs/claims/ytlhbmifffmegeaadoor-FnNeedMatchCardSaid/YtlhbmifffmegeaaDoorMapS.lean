/- Labels, which are maps of texts to texts: what is laid into them, and what they tell. -/
import Derived.Test.YtlhbmifffmegeaaDoorPFnNeedMatchx5
import Derived.Test.YtlhbmifffmegeaaDoorPFnNeedMatchx3
import Derived.Test.YtlhbmifffmegeaaDoorTxt
import Derived.Test.YtlhbmifffmegeaaDoorShelf
import Derived.Test.YtlhbmifffmegeaaDoorNeedN
import Derived.Deep.RegionHeld3
import Derived.Maps.OwnSet
import Derived.Maps.StringElems
import Derived.Maps.Views
import Derived.StringKeys
import Derived.WalkKit
import Derived.WalkMore
import Derived.KernelRfl
set_option linter.unusedVariables false
set_option linter.unusedSimpArgs false
namespace Go.Proofs.YtlhbmifffmegeaaDoor.MapS
open Go.RowKit Go.Maps Go.Proofs.YtlhbmifffmegeaaDoorW.PrintWords Go.Proofs.YtlhbmifffmegeaaDoor.PFnNeedMatch Go.Proofs.YtlhbmifffmegeaaDoor.Txt

theorem lawS : Keyed Tryd.prog 9 := string_keyed Tryd.underlying9
theorem zeroS (w : World) : (zeroValue 9).run Tryd.prog w = .ok (.string ⟨#[]⟩) w := by kernel_rfl

/-- The value of a key: the last pair's. -/
def findP : List S37 → ByteArray → Option ByteArray
  | [], _ => none
  | x :: r, k => match findP r k with
    | some v => some v
    | none => if x.f0.data.toList = k.data.toList then some x.f1 else none
theorem find_snoc (L : List S37) (x : S37) (k : ByteArray) : findP (L ++ [x]) k = if x.f0.data.toList = k.data.toList then some x.f1 else findP L k := by
  induction L with
  | nil => simp [findP]
  | cons y r ih =>
    rw [List.cons_append, findP, ih]
    by_cases h : x.f0.data.toList = k.data.toList
    · simp only [if_pos h]
    · simp only [if_neg h]; rfl
/-- A block that is a map of just these pairs. -/
def IsMapS (w : World) (b n : Nat) (L : List S37) : Prop :=
  ∃ D : DataW Unit, w.ownsMap Tryd.prog 9 (plainElem Tryd.prog 9) b n D ∧ ∀ (k : ByteArray) (zd : DataW Unit), Maps.has D (.string k.data.toList) = (findP L k).isSome ∧ D.atKey (.string k.data.toList) zd = (match findP L k with | some v => .lit (.string v.data.toList) | none => zd)
theorem IsMapS.lt {w : World} {b n : Nat} {L : List S37} (h : IsMapS w b n L) : b < w.heap.size := by
  obtain ⟨D, h1, h2⟩ := h
  exact h1.lt
theorem IsMapS.kept {w w' : World} {b n : Nat} {L : List S37} {row : Option Nat} (h : IsMapS w b n L) (g : w.grownBy w' row) (hr : some b ≠ row) : IsMapS w' b n L := by
  obtain ⟨D, h1, h2⟩ := h
  exact ⟨D, h1.kept g hr, h2⟩
theorem IsMapS.made (w : World) : IsMapS (w.alloc (.map #[] 0)) w.heap.size 0 [] := by
  refine ⟨.map [], World.ownsMap_made _ _ _ _, fun k zd => ?_⟩
  simp [Maps.has, findP, DataW.atKey]
theorem elemE : plainElem (H := Unit) Tryd.prog 9 (.string ⟨#[]⟩) = some (.lit (.string []), []) := plainElem_string Tryd.underlying9 (s := ⟨#[]⟩) (Nat.zero_le _)
set_option maxRecDepth 100000 in
theorem lookup_any (b n : Nat) (L : List S37) (k : ByteArray) (w : World) (hs : IsMapS w b n L) (hk : k.size ≤ maxLen) :
    Calls Tryd.prog 123 #[.map (some b), .string k] w fun e w' => e = .returned (.tuple #[.string ((findP L k).getD ⟨#[]⟩), .bool (findP L k).isSome]) ∧ Below w.heap.size w w' := by
  obtain ⟨D, hown, hD⟩ := hs
  have HD := Aside0.mk hD
  clear hD
  go_enter Tryd.func123, Tryd.ntmps123
  go_wp2_with (first | (at_lookup; (refine wpList_lookup_own_ok _ rfl _ _ 59 rfl 9 9 lawS Tryd.underlying59 (plainElem Tryd.prog 9) (zeroS _) (.lit (.string [])) [] elemE b n D rfl hown _ _ rfl (WideMaps.keyOf_string_mk Tryd.underlying9 hk) ?_); intro v ps hv))
  obtain ⟨u, rfl, hu, _⟩ := plainElem_string_inv Tryd.underlying9 hv
  have h1 := (HD.out k (.lit (.string []))).1
  have h2 := (HD.out k (.lit (.string []))).2
  have hu' : (D.atKey (.string k.data.toList) (.lit (.string [])) : DataW Unit) = .lit (.string u.data.toList) := congrArg Prod.fst hu
  clear hv hu
  have HE : Aside0 (u = (findP L k).getD ⟨#[]⟩ ∧ Maps.has D (.string k.data.toList) = (findP L k).isSome) := ⟨by
    refine ⟨?_, h1⟩
    rw [hu'] at h2
    cases hf : findP L k with
    | none => rw [hf] at h2; injection h2 with h2; injection h2 with h2; exact ext h2
    | some v => rw [hf] at h2; injection h2 with h2; injection h2 with h2; exact ext h2⟩
  clear h1 h2 hu'
  go_wp2
  go_ret2
  exact ⟨by rw [← HE.out.1, ← HE.out.2]; rfl, by repeat (first | exact Below.refl _ _ | apply below_alloc | apply pw_below_drewN | apply below_drew1)⟩
set_option maxRecDepth 100000 in
theorem has_any (b n : Nat) (L : List S37) (k : ByteArray) (w : World) (hs : IsMapS w b n L) (hk : k.size ≤ maxLen) :
    Calls Tryd.prog 122 #[.map (some b), .string k] w fun e w' => e = .returned (.bool (findP L k).isSome) ∧ Below w.heap.size w w' := by
  obtain ⟨D, hown, hD⟩ := hs
  have HD := Aside0.mk hD
  clear hD
  go_enter Tryd.func122, Tryd.ntmps122
  go_wp2_with (first | (at_lookup; (refine wpList_lookup_own_ok _ rfl _ _ 59 rfl 9 9 lawS Tryd.underlying59 (plainElem Tryd.prog 9) (zeroS _) (.lit (.string [])) [] elemE b n D rfl hown _ _ rfl (WideMaps.keyOf_string_mk Tryd.underlying9 hk) ?_); intro v ps hv))
  obtain ⟨u, rfl, hu, _⟩ := plainElem_string_inv Tryd.underlying9 hv
  have HE := Aside0.mk (HD.out k (.lit (.string []))).1
  clear hv hu
  go_wp2
  go_ret
  exact ⟨by rw [← HE.out]; rfl, by repeat (first | exact Below.refl _ _ | apply below_alloc | apply pw_below_drewN | apply below_drew1)⟩
theorem IsMapS.below {w w' : World} {b n : Nat} {L : List S37} (h : IsMapS w b n L) (g : Below w.heap.size w w') : IsMapS w' b n L := h.kept (grown_of_below g none) (by simp)
theorem IsMapS.drew {w : World} {b n : Nat} {L : List S37} (h : IsMapS w b n L) : IsMapS w.drew b n L := h.below (below_drew1 (Below.refl _ _))
/-- One of the values. -/
def inV (l : List ByteArray) (v : ByteArray) : Bool := l.any (fun t => t.toList == v.toList)
set_option maxRecDepth 100000 in
set_option maxHeartbeats 1000000 in
theorem hasValue_any (N : Nat) (key op : ByteArray) (A : Option Addr) (c : Nat) (vals : List ByteArray) (v : ByteArray) (w : World) (hk : w.heap[N]? = some (.cells #[.string key, .string op, .slice A vals.length c] 54 (0, 0))) (hC : Kd.C Kd.string w A vals.length vals) (hn : vals.length ≤ 4294967296) :
    Calls Tryd.prog 43 #[.pointer (some ⟨N, 0, none⟩), .string v] w fun e w' => e = .returned (.bool (inV vals v)) ∧ Below w.heap.size w w' := by
  have HK := Aside0.mk hk
  have HC := Aside0.mk hC
  have z2 : w.cell? ⟨N, 2, none⟩ = some (.slice A vals.length c) := blk_cell hk 2
  have Z2 := Aside0.mk z2
  clear hk hC
  go_enter Tryd.func43, Tryd.ntmps43
  go_wp2
  clear z2
  go_loopw [11] (fun i wr => ∃ k : Nat, k ≤ vals.length ∧ i = .int .i64 (k : Int) ∧ Aside0 ((vals.take k).any (fun t => t.toList == v.toList) = false) ∧ Aside0 (Below w.heap.size w wr)) (fun i _ => vals.length - (intOf i).toNat)
  case atStart => exact ⟨0, Nat.zero_le _, rfl, ⟨by simp⟩, ⟨Below.refl _ _⟩⟩
  case round =>
    obtain ⟨k, hkl, rfl, HA, HB⟩ := hrel
    by_cases hlt : k < vals.length
    · have p : (0 ≤ (k : Int)) = True := eq_true (by omega)
      have q : ((k : Int) < (vals.length : Int)) = True := eq_true (by omega)
      obtain ⟨ad, rfl, hx⟩ := Kd.at_string HC.out (k : Int) (by omega) (by omega)
      have hx' := (HB.out.cell (World.block_lt_of_cell? w _ hx)).trans hx
      clear hx
      have hre : rdOf ByteArray.empty vals (k : Int) = vals[k] := by unfold rdOf; rw [Int.toNat_natCast, List.getD_eq_getElem?_getD, List.getElem?_eq_getElem hlt]; rfl
      simp only [Int.toNat_natCast] at hx'
      rw [hre] at hx'
      have z2 := (HB.out.cell (World.block_lt_of_cell? w _ Z2.out)).trans Z2.out
      have HT : Aside0 ((vals.take (k + 1)).any (fun t => t.toList == v.toList) = (vals[k].toList == v.toList)) := ⟨by rw [List.take_succ_eq_append_getElem hlt, List.any_append, HA.out]; simp⟩
      have HM : Aside0 (vals[k] ∈ vals) := ⟨List.getElem_mem hlt⟩
      clear hre
      generalize vals[k] = t at hx' HT HM
      cases hc : (t.toList == v.toList)
      · rw [hc] at HT
        go_wp2
        go_roundw
        case rel => exact ⟨k + 1, by omega, by go_num, HT, HB⟩
        case measure => simp [intOf]; omega
      · have HCC := Aside0.mk hc
        go_wp2
        go_ret
        refine ⟨?_, HB.out⟩
        have : inV vals v = true := List.any_eq_true.2 ⟨t, HM.out, HCC.out⟩
        rw [this]; rfl
    · have q : ((k : Int) < (vals.length : Int)) = False := eq_false (by omega)
      go_wp2
      go_ret
      refine ⟨?_, HB.out⟩
      have e := HA.out
      rw [List.take_of_length_le (by omega)] at e
      rw [show inV vals v = false from e]; rfl
/-- The library's two errors are there. -/
def ErrOK (w : World) : Prop := (∃ ev, w.cell? ⟨0, 0, none⟩ = some ev ∧ (ev = .nilIface ∨ ∃ te pe, ev = .iface te pe)) ∧ (∃ ev, w.cell? ⟨1, 0, none⟩ = some ev ∧ (ev = .nilIface ∨ ∃ te pe, ev = .iface te pe))
theorem ErrOK.below {w w' : World} (h : ErrOK w) (g : Below w.heap.size w w') : ErrOK w' := by
  obtain ⟨⟨a, ha, ka⟩, ⟨b, hb, kb⟩⟩ := h
  exact ⟨⟨a, (g.cell (World.block_lt_of_cell? w _ ha)).trans ha, ka⟩, ⟨b, (g.cell (World.block_lt_of_cell? w _ hb)).trans hb, kb⟩⟩
theorem parse_ok (s : ByteArray) (v : Int) (hs : s.size ≤ 4294967296) (h : NeedN.num s.data.toList = some v) (w : World) :
    Calls Tryd.prog 44 #[.string s, .int .i64 10, .int .i64 64] w fun e w' => e = .returned (.tuple #[.int .i64 v, .nilIface]) ∧ Below w.heap.size w w' :=
  (Tryd.strconv_ParseInt_10_at64_ok s (by omega) v (NeedN.okOf_ok ((NeedN.num_parse _).trans h)) w).mono fun e w' hq => by
    obtain ⟨rfl, rfl | ⟨t, rfl⟩⟩ := hq
    · exact ⟨rfl, Below.refl _ _⟩
    · exact ⟨rfl, Lib.bytesWorld_below _ _ _⟩
theorem parse_no (s : ByteArray) (hs : s.size ≤ 4294967296) (h : NeedN.num s.data.toList = none) (w : World) (hE : ErrOK w) :
    Calls Tryd.prog 44 #[.string s, .int .i64 10, .int .i64 64] w fun e w' => ∃ (v : Int) (N : Nat), e = .returned (.tuple #[.int .i64 v, .iface 97 (.pointer (some ⟨N, 0, none⟩))]) ∧ Below w.heap.size w w' := by
  rw [← NeedN.num_parse] at h
  obtain ⟨⟨a, ha, ka⟩, ⟨b, hb, kb⟩⟩ := hE
  rcases hp : Lib.parseIntB 64 s.data.toList with v | _ | _
  · rw [hp] at h; cases h
  · refine (Any.strconv_ParseInt_10_at64_syntax Tryd.laysC174 s (by omega) hp a w ha ka).mono fun e w' hq => ?_
    obtain ⟨N, rfl, _, _, hb⟩ := hq
    exact ⟨_, N, rfl, hb⟩
  · refine (Any.strconv_ParseInt_10_at64_range Tryd.laysC174 s (by omega) hp b w hb kb).mono fun e w' hq => ?_
    obtain ⟨N, rfl, _, _, hb⟩ := hq
    exact ⟨_, N, rfl, hb⟩
/-- Whether a value that is there, or is not, is what a requirement asks for. -/
def matchB (op : List UInt8) (vals : List ByteArray) (f : Option ByteArray) : Bool :=
  if op = [105, 110] ∨ op = [61] ∨ op = [61, 61] then (match f with | some v => inV vals v | none => false)
  else if op = [110, 111, 116, 105, 110] ∨ op = [33, 61] then (match f with | some v => !inV vals v | none => true)
  else if op = [101, 120, 105, 115, 116, 115] then f.isSome
  else if op = [33] then !f.isSome
  else match f with
    | none => false
    | some v => match NeedN.num v.data.toList, NeedN.num (rdOf ByteArray.empty vals 0).data.toList with
      | some x, some y => if op = [103, 116] then decide (x > y) else decide (x < y)
      | _, _ => false
end Go.Proofs.YtlhbmifffmegeaaDoor.MapS
