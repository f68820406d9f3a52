/- What a requirement tells of labels, at each of its operators. -/
import Derived.Test.YtlhbmifffmegeaaDoorMapS
set_option linter.unusedVariables false
set_option linter.unusedSimpArgs false
namespace Go.Proofs.YtlhbmifffmegeaaDoor.MapS
open Go.RowKit Go.Maps Go.Proofs.YtlhbmifffmegeaaDoorW.PrintWords Go.Proofs.YtlhbmifffmegeaaDoor.PFnNeedMatch Go.Proofs.YtlhbmifffmegeaaDoor.Txt Go.Proofs.YtlhbmifffmegeaaDoor
theorem na_Lookup (b : Nat) (w : World) : (nilAhead 266 59 (.map (some b)) "Lookup").run Tryd.prog w = .ok (some false) w := by kernel_rfl
theorem me_Lookup (b : Nat) (w : World) : (method 266 59 (.map (some b)) "Lookup").run Tryd.prog w = .ok (123, .map (some b)) w := by kernel_rfl
theorem na_Has (b : Nat) (w : World) : (nilAhead 266 59 (.map (some b)) "Has").run Tryd.prog w = .ok (some false) w := by kernel_rfl
theorem me_Has (b : Nat) (w : World) : (method 266 59 (.map (some b)) "Has").run Tryd.prog w = .ok (122, .map (some b)) w := by kernel_rfl
set_option maxRecDepth 100000 in
set_option maxHeartbeats 4000000 in
theorem match_0 (N : Nat) (key op : ByteArray) (A : Option Addr) (c : Nat) (vals : List ByteArray) (b n : Nat) (L : List S37) (w : World) (hk : w.heap[N]? = some (.cells #[.string key, .string op, .slice A vals.length c] 54 (0, 0))) (hC : Kd.C Kd.string w A vals.length vals) (hn : vals.length ≤ 4294967296) (hm : IsMapS w b n L) (hks : key.size ≤ maxLen) (hL : ∀ v, findP L key = some v → v.size ≤ 4294967296) (hE : ErrOK w) (hop : op.data.toList = [105, 110]) :
    Calls Tryd.prog 29 #[.pointer (some ⟨N, 0, none⟩), .iface 59 (.map (some b))] w fun e w' => e = .returned (.bool (matchB op.data.toList vals (findP L key))) ∧ Below w.heap.size w w' := by
  have mixed : Tryd.prog.follows .mixedOrders = true := by kernel_rfl
  have hl : op.toList = [105, 110] := by rw [toL, hop]
  have t0 : (op.toList == [105, 110]) = true := by rw [hl]; rfl
  have t1 : (op.toList == [110, 111, 116, 105, 110]) = false := by rw [hl]; rfl
  have t2 : (op.toList == [61]) = false := by rw [hl]; rfl
  have t3 : (op.toList == [61, 61]) = false := by rw [hl]; rfl
  have t4 : (op.toList == [33, 61]) = false := by rw [hl]; rfl
  have t5 : (op.toList == [101, 120, 105, 115, 116, 115]) = false := by rw [hl]; rfl
  have t6 : (op.toList == [33]) = false := by rw [hl]; rfl
  have t7 : (op.toList == [103, 116]) = false := by rw [hl]; rfl
  have t8 : (op.toList == [108, 116]) = false := by rw [hl]; rfl
  have z0 : w.cell? ⟨N, 0, none⟩ = some (.string key) := blk_cell hk 0
  have z1 : w.cell? ⟨N, 1, none⟩ = some (.string op) := blk_cell hk 1
  have z2 : w.cell? ⟨N, 2, none⟩ = some (.slice A vals.length c) := blk_cell hk 2
  have y0 : w.drew.cell? ⟨N, 0, none⟩ = some (.string key) := z0
  have HKB := Aside0.mk hk
  have HCC := Aside0.mk hC
  have HEE := Aside0.mk hE
  rw [hop]
  have HH := Aside0.mk (fun (w' : World) (h : IsMapS w' b n L) => lookup_any b n L key w' h hks)
  have HM := Aside0.mk hm
  have nal := na_Lookup b
  have mel := me_Lookup b
  cases hf : findP L key with
  | none =>
    rw [hf] at HH
    clear hk hC hm hks hL hE hop hl
    go_enter Tryd.func29, Tryd.ntmps29
    go_wp2
    go_region_held3 (fun w' => w'.cell? ⟨N, 0, none⟩ = some (.string key)) (first | exact y0 | exact y1)
      (first | (go_at_call 123; refine (HH.out _ (HM.out.drew)).mono ?_; rintro e w1 ⟨rfl, hb⟩; have B1 := Aside0.mk (below_step (below_drew1 (Below.refl w.heap.size w)) hb); have hk1 := blk_below (blk_drew HKB.out) hb; have y1 := blk_cell hk1 0; have q0 := blk_cell hk1 0; have q1 := blk_cell hk1 1; have q2 := blk_cell hk1 2; have HK1 := Aside0.mk hk1; clear hk1 hb))
    all_goals go_wp2
    all_goals go_ret
    exact ⟨by first | rfl | (unfold matchB; simp), B1.out⟩
  | some v =>
    rw [hf] at HH
    have HV := Aside0.mk (fun (w' : World) (k1 : w'.heap[N]? = some (.cells #[.string key, .string op, .slice A vals.length c] 54 (0, 0))) (k2 : Kd.C Kd.string w' A vals.length vals) => hasValue_any N key op A c vals v w' k1 k2 hn)
    clear hk hC hm hks hL hE hop hl
    go_enter Tryd.func29, Tryd.ntmps29
    go_wp2
    go_region_held3 (fun w' => w'.cell? ⟨N, 0, none⟩ = some (.string key)) (first | exact y0 | exact y1)
      (first | (go_at_call 123; refine (HH.out _ (HM.out.drew)).mono ?_; rintro e w1 ⟨rfl, hb⟩; have B1 := Aside0.mk (below_step (below_drew1 (Below.refl w.heap.size w)) hb); have hk1 := blk_below (blk_drew HKB.out) hb; have y1 := blk_cell hk1 0; have q0 := blk_cell hk1 0; have q1 := blk_cell hk1 1; have q2 := blk_cell hk1 2; have HK1 := Aside0.mk hk1; clear hk1 hb))
    all_goals go_wp2_with (first | (go_at_call 43; refine (HV.out _ HK1.out (Kd.C_below HCC.out B1.out)).mono ?_; rintro e w2 ⟨rfl, hb⟩; have B2 := Aside0.mk (below_step B1.out hb); clear hb))
    all_goals go_ret
    exact ⟨by first | rfl | (unfold matchB; simp), B2.out⟩
set_option maxRecDepth 100000 in
set_option maxHeartbeats 4000000 in
theorem match_1 (N : Nat) (key op : ByteArray) (A : Option Addr) (c : Nat) (vals : List ByteArray) (b n : Nat) (L : List S37) (w : World) (hk : w.heap[N]? = some (.cells #[.string key, .string op, .slice A vals.length c] 54 (0, 0))) (hC : Kd.C Kd.string w A vals.length vals) (hn : vals.length ≤ 4294967296) (hm : IsMapS w b n L) (hks : key.size ≤ maxLen) (hL : ∀ v, findP L key = some v → v.size ≤ 4294967296) (hE : ErrOK w) (hop : op.data.toList = [110, 111, 116, 105, 110]) :
    Calls Tryd.prog 29 #[.pointer (some ⟨N, 0, none⟩), .iface 59 (.map (some b))] w fun e w' => e = .returned (.bool (matchB op.data.toList vals (findP L key))) ∧ Below w.heap.size w w' := by
  have mixed : Tryd.prog.follows .mixedOrders = true := by kernel_rfl
  have hl : op.toList = [110, 111, 116, 105, 110] := by rw [toL, hop]
  have t0 : (op.toList == [105, 110]) = false := by rw [hl]; rfl
  have t1 : (op.toList == [110, 111, 116, 105, 110]) = true := by rw [hl]; rfl
  have t2 : (op.toList == [61]) = false := by rw [hl]; rfl
  have t3 : (op.toList == [61, 61]) = false := by rw [hl]; rfl
  have t4 : (op.toList == [33, 61]) = false := by rw [hl]; rfl
  have t5 : (op.toList == [101, 120, 105, 115, 116, 115]) = false := by rw [hl]; rfl
  have t6 : (op.toList == [33]) = false := by rw [hl]; rfl
  have t7 : (op.toList == [103, 116]) = false := by rw [hl]; rfl
  have t8 : (op.toList == [108, 116]) = false := by rw [hl]; rfl
  have z0 : w.cell? ⟨N, 0, none⟩ = some (.string key) := blk_cell hk 0
  have z1 : w.cell? ⟨N, 1, none⟩ = some (.string op) := blk_cell hk 1
  have z2 : w.cell? ⟨N, 2, none⟩ = some (.slice A vals.length c) := blk_cell hk 2
  have y0 : w.drew.cell? ⟨N, 0, none⟩ = some (.string key) := z0
  have HKB := Aside0.mk hk
  have HCC := Aside0.mk hC
  have HEE := Aside0.mk hE
  rw [hop]
  have HH := Aside0.mk (fun (w' : World) (h : IsMapS w' b n L) => lookup_any b n L key w' h hks)
  have HM := Aside0.mk hm
  have nal := na_Lookup b
  have mel := me_Lookup b
  cases hf : findP L key with
  | none =>
    rw [hf] at HH
    clear hk hC hm hks hL hE hop hl
    go_enter Tryd.func29, Tryd.ntmps29
    go_wp2
    go_region_held3 (fun w' => w'.cell? ⟨N, 0, none⟩ = some (.string key)) (first | exact y0 | exact y1)
      (first | (go_at_call 123; refine (HH.out _ (HM.out.drew)).mono ?_; rintro e w1 ⟨rfl, hb⟩; have B1 := Aside0.mk (below_step (below_drew1 (Below.refl w.heap.size w)) hb); have hk1 := blk_below (blk_drew HKB.out) hb; have y1 := blk_cell hk1 0; have q0 := blk_cell hk1 0; have q1 := blk_cell hk1 1; have q2 := blk_cell hk1 2; have HK1 := Aside0.mk hk1; clear hk1 hb))
    all_goals go_wp2
    all_goals go_ret
    exact ⟨by first | rfl | (unfold matchB; simp), B1.out⟩
  | some v =>
    rw [hf] at HH
    have HV := Aside0.mk (fun (w' : World) (k1 : w'.heap[N]? = some (.cells #[.string key, .string op, .slice A vals.length c] 54 (0, 0))) (k2 : Kd.C Kd.string w' A vals.length vals) => hasValue_any N key op A c vals v w' k1 k2 hn)
    clear hk hC hm hks hL hE hop hl
    go_enter Tryd.func29, Tryd.ntmps29
    go_wp2
    go_region_held3 (fun w' => w'.cell? ⟨N, 0, none⟩ = some (.string key)) (first | exact y0 | exact y1)
      (first | (go_at_call 123; refine (HH.out _ (HM.out.drew)).mono ?_; rintro e w1 ⟨rfl, hb⟩; have B1 := Aside0.mk (below_step (below_drew1 (Below.refl w.heap.size w)) hb); have hk1 := blk_below (blk_drew HKB.out) hb; have y1 := blk_cell hk1 0; have q0 := blk_cell hk1 0; have q1 := blk_cell hk1 1; have q2 := blk_cell hk1 2; have HK1 := Aside0.mk hk1; clear hk1 hb))
    all_goals go_wp2_with (first | (go_at_call 43; refine (HV.out _ HK1.out (Kd.C_below HCC.out B1.out)).mono ?_; rintro e w2 ⟨rfl, hb⟩; have B2 := Aside0.mk (below_step B1.out hb); clear hb))
    all_goals go_ret
    exact ⟨by first | rfl | (unfold matchB; simp), B2.out⟩
set_option maxRecDepth 100000 in
set_option maxHeartbeats 4000000 in
theorem match_2 (N : Nat) (key op : ByteArray) (A : Option Addr) (c : Nat) (vals : List ByteArray) (b n : Nat) (L : List S37) (w : World) (hk : w.heap[N]? = some (.cells #[.string key, .string op, .slice A vals.length c] 54 (0, 0))) (hC : Kd.C Kd.string w A vals.length vals) (hn : vals.length ≤ 4294967296) (hm : IsMapS w b n L) (hks : key.size ≤ maxLen) (hL : ∀ v, findP L key = some v → v.size ≤ 4294967296) (hE : ErrOK w) (hop : op.data.toList = [61]) :
    Calls Tryd.prog 29 #[.pointer (some ⟨N, 0, none⟩), .iface 59 (.map (some b))] w fun e w' => e = .returned (.bool (matchB op.data.toList vals (findP L key))) ∧ Below w.heap.size w w' := by
  have mixed : Tryd.prog.follows .mixedOrders = true := by kernel_rfl
  have hl : op.toList = [61] := by rw [toL, hop]
  have t0 : (op.toList == [105, 110]) = false := by rw [hl]; rfl
  have t1 : (op.toList == [110, 111, 116, 105, 110]) = false := by rw [hl]; rfl
  have t2 : (op.toList == [61]) = true := by rw [hl]; rfl
  have t3 : (op.toList == [61, 61]) = false := by rw [hl]; rfl
  have t4 : (op.toList == [33, 61]) = false := by rw [hl]; rfl
  have t5 : (op.toList == [101, 120, 105, 115, 116, 115]) = false := by rw [hl]; rfl
  have t6 : (op.toList == [33]) = false := by rw [hl]; rfl
  have t7 : (op.toList == [103, 116]) = false := by rw [hl]; rfl
  have t8 : (op.toList == [108, 116]) = false := by rw [hl]; rfl
  have z0 : w.cell? ⟨N, 0, none⟩ = some (.string key) := blk_cell hk 0
  have z1 : w.cell? ⟨N, 1, none⟩ = some (.string op) := blk_cell hk 1
  have z2 : w.cell? ⟨N, 2, none⟩ = some (.slice A vals.length c) := blk_cell hk 2
  have y0 : w.drew.cell? ⟨N, 0, none⟩ = some (.string key) := z0
  have HKB := Aside0.mk hk
  have HCC := Aside0.mk hC
  have HEE := Aside0.mk hE
  rw [hop]
  have HH := Aside0.mk (fun (w' : World) (h : IsMapS w' b n L) => lookup_any b n L key w' h hks)
  have HM := Aside0.mk hm
  have nal := na_Lookup b
  have mel := me_Lookup b
  cases hf : findP L key with
  | none =>
    rw [hf] at HH
    clear hk hC hm hks hL hE hop hl
    go_enter Tryd.func29, Tryd.ntmps29
    go_wp2
    go_region_held3 (fun w' => w'.cell? ⟨N, 0, none⟩ = some (.string key)) (first | exact y0 | exact y1)
      (first | (go_at_call 123; refine (HH.out _ (HM.out.drew)).mono ?_; rintro e w1 ⟨rfl, hb⟩; have B1 := Aside0.mk (below_step (below_drew1 (Below.refl w.heap.size w)) hb); have hk1 := blk_below (blk_drew HKB.out) hb; have y1 := blk_cell hk1 0; have q0 := blk_cell hk1 0; have q1 := blk_cell hk1 1; have q2 := blk_cell hk1 2; have HK1 := Aside0.mk hk1; clear hk1 hb))
    all_goals go_wp2
    all_goals go_ret
    exact ⟨by first | rfl | (unfold matchB; simp), B1.out⟩
  | some v =>
    rw [hf] at HH
    have HV := Aside0.mk (fun (w' : World) (k1 : w'.heap[N]? = some (.cells #[.string key, .string op, .slice A vals.length c] 54 (0, 0))) (k2 : Kd.C Kd.string w' A vals.length vals) => hasValue_any N key op A c vals v w' k1 k2 hn)
    clear hk hC hm hks hL hE hop hl
    go_enter Tryd.func29, Tryd.ntmps29
    go_wp2
    go_region_held3 (fun w' => w'.cell? ⟨N, 0, none⟩ = some (.string key)) (first | exact y0 | exact y1)
      (first | (go_at_call 123; refine (HH.out _ (HM.out.drew)).mono ?_; rintro e w1 ⟨rfl, hb⟩; have B1 := Aside0.mk (below_step (below_drew1 (Below.refl w.heap.size w)) hb); have hk1 := blk_below (blk_drew HKB.out) hb; have y1 := blk_cell hk1 0; have q0 := blk_cell hk1 0; have q1 := blk_cell hk1 1; have q2 := blk_cell hk1 2; have HK1 := Aside0.mk hk1; clear hk1 hb))
    all_goals go_wp2_with (first | (go_at_call 43; refine (HV.out _ HK1.out (Kd.C_below HCC.out B1.out)).mono ?_; rintro e w2 ⟨rfl, hb⟩; have B2 := Aside0.mk (below_step B1.out hb); clear hb))
    all_goals go_ret
    exact ⟨by first | rfl | (unfold matchB; simp), B2.out⟩
set_option maxRecDepth 100000 in
set_option maxHeartbeats 4000000 in
theorem match_3 (N : Nat) (key op : ByteArray) (A : Option Addr) (c : Nat) (vals : List ByteArray) (b n : Nat) (L : List S37) (w : World) (hk : w.heap[N]? = some (.cells #[.string key, .string op, .slice A vals.length c] 54 (0, 0))) (hC : Kd.C Kd.string w A vals.length vals) (hn : vals.length ≤ 4294967296) (hm : IsMapS w b n L) (hks : key.size ≤ maxLen) (hL : ∀ v, findP L key = some v → v.size ≤ 4294967296) (hE : ErrOK w) (hop : op.data.toList = [61, 61]) :
    Calls Tryd.prog 29 #[.pointer (some ⟨N, 0, none⟩), .iface 59 (.map (some b))] w fun e w' => e = .returned (.bool (matchB op.data.toList vals (findP L key))) ∧ Below w.heap.size w w' := by
  have mixed : Tryd.prog.follows .mixedOrders = true := by kernel_rfl
  have hl : op.toList = [61, 61] := by rw [toL, hop]
  have t0 : (op.toList == [105, 110]) = false := by rw [hl]; rfl
  have t1 : (op.toList == [110, 111, 116, 105, 110]) = false := by rw [hl]; rfl
  have t2 : (op.toList == [61]) = false := by rw [hl]; rfl
  have t3 : (op.toList == [61, 61]) = true := by rw [hl]; rfl
  have t4 : (op.toList == [33, 61]) = false := by rw [hl]; rfl
  have t5 : (op.toList == [101, 120, 105, 115, 116, 115]) = false := by rw [hl]; rfl
  have t6 : (op.toList == [33]) = false := by rw [hl]; rfl
  have t7 : (op.toList == [103, 116]) = false := by rw [hl]; rfl
  have t8 : (op.toList == [108, 116]) = false := by rw [hl]; rfl
  have z0 : w.cell? ⟨N, 0, none⟩ = some (.string key) := blk_cell hk 0
  have z1 : w.cell? ⟨N, 1, none⟩ = some (.string op) := blk_cell hk 1
  have z2 : w.cell? ⟨N, 2, none⟩ = some (.slice A vals.length c) := blk_cell hk 2
  have y0 : w.drew.cell? ⟨N, 0, none⟩ = some (.string key) := z0
  have HKB := Aside0.mk hk
  have HCC := Aside0.mk hC
  have HEE := Aside0.mk hE
  rw [hop]
  have HH := Aside0.mk (fun (w' : World) (h : IsMapS w' b n L) => lookup_any b n L key w' h hks)
  have HM := Aside0.mk hm
  have nal := na_Lookup b
  have mel := me_Lookup b
  cases hf : findP L key with
  | none =>
    rw [hf] at HH
    clear hk hC hm hks hL hE hop hl
    go_enter Tryd.func29, Tryd.ntmps29
    go_wp2
    go_region_held3 (fun w' => w'.cell? ⟨N, 0, none⟩ = some (.string key)) (first | exact y0 | exact y1)
      (first | (go_at_call 123; refine (HH.out _ (HM.out.drew)).mono ?_; rintro e w1 ⟨rfl, hb⟩; have B1 := Aside0.mk (below_step (below_drew1 (Below.refl w.heap.size w)) hb); have hk1 := blk_below (blk_drew HKB.out) hb; have y1 := blk_cell hk1 0; have q0 := blk_cell hk1 0; have q1 := blk_cell hk1 1; have q2 := blk_cell hk1 2; have HK1 := Aside0.mk hk1; clear hk1 hb))
    all_goals go_wp2
    all_goals go_ret
    exact ⟨by first | rfl | (unfold matchB; simp), B1.out⟩
  | some v =>
    rw [hf] at HH
    have HV := Aside0.mk (fun (w' : World) (k1 : w'.heap[N]? = some (.cells #[.string key, .string op, .slice A vals.length c] 54 (0, 0))) (k2 : Kd.C Kd.string w' A vals.length vals) => hasValue_any N key op A c vals v w' k1 k2 hn)
    clear hk hC hm hks hL hE hop hl
    go_enter Tryd.func29, Tryd.ntmps29
    go_wp2
    go_region_held3 (fun w' => w'.cell? ⟨N, 0, none⟩ = some (.string key)) (first | exact y0 | exact y1)
      (first | (go_at_call 123; refine (HH.out _ (HM.out.drew)).mono ?_; rintro e w1 ⟨rfl, hb⟩; have B1 := Aside0.mk (below_step (below_drew1 (Below.refl w.heap.size w)) hb); have hk1 := blk_below (blk_drew HKB.out) hb; have y1 := blk_cell hk1 0; have q0 := blk_cell hk1 0; have q1 := blk_cell hk1 1; have q2 := blk_cell hk1 2; have HK1 := Aside0.mk hk1; clear hk1 hb))
    all_goals go_wp2_with (first | (go_at_call 43; refine (HV.out _ HK1.out (Kd.C_below HCC.out B1.out)).mono ?_; rintro e w2 ⟨rfl, hb⟩; have B2 := Aside0.mk (below_step B1.out hb); clear hb))
    all_goals go_ret
    exact ⟨by first | rfl | (unfold matchB; simp), B2.out⟩
set_option maxRecDepth 100000 in
set_option maxHeartbeats 4000000 in
theorem match_4 (N : Nat) (key op : ByteArray) (A : Option Addr) (c : Nat) (vals : List ByteArray) (b n : Nat) (L : List S37) (w : World) (hk : w.heap[N]? = some (.cells #[.string key, .string op, .slice A vals.length c] 54 (0, 0))) (hC : Kd.C Kd.string w A vals.length vals) (hn : vals.length ≤ 4294967296) (hm : IsMapS w b n L) (hks : key.size ≤ maxLen) (hL : ∀ v, findP L key = some v → v.size ≤ 4294967296) (hE : ErrOK w) (hop : op.data.toList = [33, 61]) :
    Calls Tryd.prog 29 #[.pointer (some ⟨N, 0, none⟩), .iface 59 (.map (some b))] w fun e w' => e = .returned (.bool (matchB op.data.toList vals (findP L key))) ∧ Below w.heap.size w w' := by
  have mixed : Tryd.prog.follows .mixedOrders = true := by kernel_rfl
  have hl : op.toList = [33, 61] := by rw [toL, hop]
  have t0 : (op.toList == [105, 110]) = false := by rw [hl]; rfl
  have t1 : (op.toList == [110, 111, 116, 105, 110]) = false := by rw [hl]; rfl
  have t2 : (op.toList == [61]) = false := by rw [hl]; rfl
  have t3 : (op.toList == [61, 61]) = false := by rw [hl]; rfl
  have t4 : (op.toList == [33, 61]) = true := by rw [hl]; rfl
  have t5 : (op.toList == [101, 120, 105, 115, 116, 115]) = false := by rw [hl]; rfl
  have t6 : (op.toList == [33]) = false := by rw [hl]; rfl
  have t7 : (op.toList == [103, 116]) = false := by rw [hl]; rfl
  have t8 : (op.toList == [108, 116]) = false := by rw [hl]; rfl
  have z0 : w.cell? ⟨N, 0, none⟩ = some (.string key) := blk_cell hk 0
  have z1 : w.cell? ⟨N, 1, none⟩ = some (.string op) := blk_cell hk 1
  have z2 : w.cell? ⟨N, 2, none⟩ = some (.slice A vals.length c) := blk_cell hk 2
  have y0 : w.drew.cell? ⟨N, 0, none⟩ = some (.string key) := z0
  have HKB := Aside0.mk hk
  have HCC := Aside0.mk hC
  have HEE := Aside0.mk hE
  rw [hop]
  have HH := Aside0.mk (fun (w' : World) (h : IsMapS w' b n L) => lookup_any b n L key w' h hks)
  have HM := Aside0.mk hm
  have nal := na_Lookup b
  have mel := me_Lookup b
  cases hf : findP L key with
  | none =>
    rw [hf] at HH
    clear hk hC hm hks hL hE hop hl
    go_enter Tryd.func29, Tryd.ntmps29
    go_wp2
    go_region_held3 (fun w' => w'.cell? ⟨N, 0, none⟩ = some (.string key)) (first | exact y0 | exact y1)
      (first | (go_at_call 123; refine (HH.out _ (HM.out.drew)).mono ?_; rintro e w1 ⟨rfl, hb⟩; have B1 := Aside0.mk (below_step (below_drew1 (Below.refl w.heap.size w)) hb); have hk1 := blk_below (blk_drew HKB.out) hb; have y1 := blk_cell hk1 0; have q0 := blk_cell hk1 0; have q1 := blk_cell hk1 1; have q2 := blk_cell hk1 2; have HK1 := Aside0.mk hk1; clear hk1 hb))
    all_goals go_wp2
    all_goals go_ret
    exact ⟨by first | rfl | (unfold matchB; simp), B1.out⟩
  | some v =>
    rw [hf] at HH
    have HV := Aside0.mk (fun (w' : World) (k1 : w'.heap[N]? = some (.cells #[.string key, .string op, .slice A vals.length c] 54 (0, 0))) (k2 : Kd.C Kd.string w' A vals.length vals) => hasValue_any N key op A c vals v w' k1 k2 hn)
    clear hk hC hm hks hL hE hop hl
    go_enter Tryd.func29, Tryd.ntmps29
    go_wp2
    go_region_held3 (fun w' => w'.cell? ⟨N, 0, none⟩ = some (.string key)) (first | exact y0 | exact y1)
      (first | (go_at_call 123; refine (HH.out _ (HM.out.drew)).mono ?_; rintro e w1 ⟨rfl, hb⟩; have B1 := Aside0.mk (below_step (below_drew1 (Below.refl w.heap.size w)) hb); have hk1 := blk_below (blk_drew HKB.out) hb; have y1 := blk_cell hk1 0; have q0 := blk_cell hk1 0; have q1 := blk_cell hk1 1; have q2 := blk_cell hk1 2; have HK1 := Aside0.mk hk1; clear hk1 hb))
    all_goals go_wp2_with (first | (go_at_call 43; refine (HV.out _ HK1.out (Kd.C_below HCC.out B1.out)).mono ?_; rintro e w2 ⟨rfl, hb⟩; have B2 := Aside0.mk (below_step B1.out hb); clear hb))
    all_goals go_ret
    exact ⟨by first | rfl | (unfold matchB; simp), B2.out⟩
set_option maxRecDepth 100000 in
set_option maxHeartbeats 4000000 in
theorem match_5 (N : Nat) (key op : ByteArray) (A : Option Addr) (c : Nat) (vals : List ByteArray) (b n : Nat) (L : List S37) (w : World) (hk : w.heap[N]? = some (.cells #[.string key, .string op, .slice A vals.length c] 54 (0, 0))) (hC : Kd.C Kd.string w A vals.length vals) (hn : vals.length ≤ 4294967296) (hm : IsMapS w b n L) (hks : key.size ≤ maxLen) (hL : ∀ v, findP L key = some v → v.size ≤ 4294967296) (hE : ErrOK w) (hop : op.data.toList = [101, 120, 105, 115, 116, 115]) :
    Calls Tryd.prog 29 #[.pointer (some ⟨N, 0, none⟩), .iface 59 (.map (some b))] w fun e w' => e = .returned (.bool (matchB op.data.toList vals (findP L key))) ∧ Below w.heap.size w w' := by
  have mixed : Tryd.prog.follows .mixedOrders = true := by kernel_rfl
  have hl : op.toList = [101, 120, 105, 115, 116, 115] := by rw [toL, hop]
  have t0 : (op.toList == [105, 110]) = false := by rw [hl]; rfl
  have t1 : (op.toList == [110, 111, 116, 105, 110]) = false := by rw [hl]; rfl
  have t2 : (op.toList == [61]) = false := by rw [hl]; rfl
  have t3 : (op.toList == [61, 61]) = false := by rw [hl]; rfl
  have t4 : (op.toList == [33, 61]) = false := by rw [hl]; rfl
  have t5 : (op.toList == [101, 120, 105, 115, 116, 115]) = true := by rw [hl]; rfl
  have t6 : (op.toList == [33]) = false := by rw [hl]; rfl
  have t7 : (op.toList == [103, 116]) = false := by rw [hl]; rfl
  have t8 : (op.toList == [108, 116]) = false := by rw [hl]; rfl
  have z0 : w.cell? ⟨N, 0, none⟩ = some (.string key) := blk_cell hk 0
  have z1 : w.cell? ⟨N, 1, none⟩ = some (.string op) := blk_cell hk 1
  have z2 : w.cell? ⟨N, 2, none⟩ = some (.slice A vals.length c) := blk_cell hk 2
  have y0 : w.drew.cell? ⟨N, 0, none⟩ = some (.string key) := z0
  have HKB := Aside0.mk hk
  have HCC := Aside0.mk hC
  have HEE := Aside0.mk hE
  rw [hop]
  have HH := Aside0.mk (fun (w' : World) (h : IsMapS w' b n L) => has_any b n L key w' h hks)
  have HM := Aside0.mk hm
  have nal := na_Has b
  have mel := me_Has b
  clear hk hC hm hks hL hE hop hl z2
  go_enter Tryd.func29, Tryd.ntmps29
  go_wp2
  go_region_held3 (fun w' => w'.cell? ⟨N, 0, none⟩ = some (.string key)) (first | exact y0 | exact y1)
    (first | (go_at_call 122; refine (HH.out _ (HM.out.drew)).mono ?_; rintro e w1 ⟨rfl, hb⟩; have B1 := Aside0.mk (below_step (below_drew1 (Below.refl w.heap.size w)) hb); have hk1 := blk_below (blk_drew HKB.out) hb; have y1 := blk_cell hk1 0; have q0 := blk_cell hk1 0; have q1 := blk_cell hk1 1; have q2 := blk_cell hk1 2; have HK1 := Aside0.mk hk1; clear hk1 hb))
  all_goals go_wp2
  all_goals go_ret
  exact ⟨by unfold matchB; simp, B1.out⟩
set_option maxRecDepth 100000 in
set_option maxHeartbeats 4000000 in
theorem match_6 (N : Nat) (key op : ByteArray) (A : Option Addr) (c : Nat) (vals : List ByteArray) (b n : Nat) (L : List S37) (w : World) (hk : w.heap[N]? = some (.cells #[.string key, .string op, .slice A vals.length c] 54 (0, 0))) (hC : Kd.C Kd.string w A vals.length vals) (hn : vals.length ≤ 4294967296) (hm : IsMapS w b n L) (hks : key.size ≤ maxLen) (hL : ∀ v, findP L key = some v → v.size ≤ 4294967296) (hE : ErrOK w) (hop : op.data.toList = [33]) :
    Calls Tryd.prog 29 #[.pointer (some ⟨N, 0, none⟩), .iface 59 (.map (some b))] w fun e w' => e = .returned (.bool (matchB op.data.toList vals (findP L key))) ∧ Below w.heap.size w w' := by
  have mixed : Tryd.prog.follows .mixedOrders = true := by kernel_rfl
  have hl : op.toList = [33] := by rw [toL, hop]
  have t0 : (op.toList == [105, 110]) = false := by rw [hl]; rfl
  have t1 : (op.toList == [110, 111, 116, 105, 110]) = false := by rw [hl]; rfl
  have t2 : (op.toList == [61]) = false := by rw [hl]; rfl
  have t3 : (op.toList == [61, 61]) = false := by rw [hl]; rfl
  have t4 : (op.toList == [33, 61]) = false := by rw [hl]; rfl
  have t5 : (op.toList == [101, 120, 105, 115, 116, 115]) = false := by rw [hl]; rfl
  have t6 : (op.toList == [33]) = true := by rw [hl]; rfl
  have t7 : (op.toList == [103, 116]) = false := by rw [hl]; rfl
  have t8 : (op.toList == [108, 116]) = false := by rw [hl]; rfl
  have z0 : w.cell? ⟨N, 0, none⟩ = some (.string key) := blk_cell hk 0
  have z1 : w.cell? ⟨N, 1, none⟩ = some (.string op) := blk_cell hk 1
  have z2 : w.cell? ⟨N, 2, none⟩ = some (.slice A vals.length c) := blk_cell hk 2
  have y0 : w.drew.cell? ⟨N, 0, none⟩ = some (.string key) := z0
  have HKB := Aside0.mk hk
  have HCC := Aside0.mk hC
  have HEE := Aside0.mk hE
  rw [hop]
  have HH := Aside0.mk (fun (w' : World) (h : IsMapS w' b n L) => has_any b n L key w' h hks)
  have HM := Aside0.mk hm
  have nal := na_Has b
  have mel := me_Has b
  clear hk hC hm hks hL hE hop hl z2
  go_enter Tryd.func29, Tryd.ntmps29
  go_wp2
  go_region_held3 (fun w' => w'.cell? ⟨N, 0, none⟩ = some (.string key)) (first | exact y0 | exact y1)
    (first | (go_at_call 122; refine (HH.out _ (HM.out.drew)).mono ?_; rintro e w1 ⟨rfl, hb⟩; have B1 := Aside0.mk (below_step (below_drew1 (Below.refl w.heap.size w)) hb); have hk1 := blk_below (blk_drew HKB.out) hb; have y1 := blk_cell hk1 0; have q0 := blk_cell hk1 0; have q1 := blk_cell hk1 1; have q2 := blk_cell hk1 2; have HK1 := Aside0.mk hk1; clear hk1 hb))
  all_goals go_wp2
  all_goals go_ret
  exact ⟨by unfold matchB; simp, B1.out⟩
set_option maxRecDepth 100000 in
set_option maxHeartbeats 4000000 in
theorem match_7 (N : Nat) (key op : ByteArray) (A : Option Addr) (c : Nat) (vals : List ByteArray) (b n : Nat) (L : List S37) (w : World) (hk : w.heap[N]? = some (.cells #[.string key, .string op, .slice A vals.length c] 54 (0, 0))) (hC : Kd.C Kd.string w A vals.length vals) (hn : vals.length ≤ 4294967296) (hm : IsMapS w b n L) (hks : key.size ≤ maxLen) (hL : ∀ v, findP L key = some v → v.size ≤ 4294967296) (hE : ErrOK w) (hop : op.data.toList = [103, 116]) (x0 : ByteArray) (y : Int) (h1 : vals = [x0]) (hy : NeedN.num x0.data.toList = some y) (hz : x0.size ≤ 4294967296) :
    Calls Tryd.prog 29 #[.pointer (some ⟨N, 0, none⟩), .iface 59 (.map (some b))] w fun e w' => e = .returned (.bool (matchB op.data.toList vals (findP L key))) ∧ Below w.heap.size w w' := by
  have mixed : Tryd.prog.follows .mixedOrders = true := by kernel_rfl
  have hl : op.toList = [103, 116] := by rw [toL, hop]
  have t0 : (op.toList == [105, 110]) = false := by rw [hl]; rfl
  have t1 : (op.toList == [110, 111, 116, 105, 110]) = false := by rw [hl]; rfl
  have t2 : (op.toList == [61]) = false := by rw [hl]; rfl
  have t3 : (op.toList == [61, 61]) = false := by rw [hl]; rfl
  have t4 : (op.toList == [33, 61]) = false := by rw [hl]; rfl
  have t5 : (op.toList == [101, 120, 105, 115, 116, 115]) = false := by rw [hl]; rfl
  have t6 : (op.toList == [33]) = false := by rw [hl]; rfl
  have t7 : (op.toList == [103, 116]) = true := by rw [hl]; rfl
  have t8 : (op.toList == [108, 116]) = false := by rw [hl]; rfl
  have z0 : w.cell? ⟨N, 0, none⟩ = some (.string key) := blk_cell hk 0
  have z1 : w.cell? ⟨N, 1, none⟩ = some (.string op) := blk_cell hk 1
  have z2 : w.cell? ⟨N, 2, none⟩ = some (.slice A vals.length c) := blk_cell hk 2
  have y0 : w.drew.cell? ⟨N, 0, none⟩ = some (.string key) := z0
  have HKB := Aside0.mk hk
  have HCC := Aside0.mk hC
  have HEE := Aside0.mk hE
  rw [hop]
  have HH := Aside0.mk (fun (w' : World) (h : IsMapS w' b n L) => lookup_any b n L key w' h hks)
  have HM := Aside0.mk hm
  have nal := na_Lookup b
  have mel := me_Lookup b
  subst h1
  have f1 : ([x0].length = 1) = True := eq_true rfl
  obtain ⟨ad, rfl, hx⟩ := Kd.at_string hC (0 : Int) (by omega) (by simp)
  have hx0 : w.cell? ad = some (.string x0) := by rw [show ((0 : Int)).toNat = 0 from rfl, Addr.add_zero'] at hx; simpa [rdOf] using hx
  have HX := Aside0.mk hx0
  have HP0 := Aside0.mk (fun w => parse_ok x0 y hz hy w)
  cases hf : findP L key with
  | none =>
    rw [hf] at HH
    clear hk hC hm hks hL hE hop hl hx hx0
    go_enter Tryd.func29, Tryd.ntmps29
    go_wp2
    go_region_held3 (fun w' => w'.cell? ⟨N, 0, none⟩ = some (.string key)) (first | exact y0 | exact y1)
      (first | (go_at_call 123; refine (HH.out _ (HM.out.drew)).mono ?_; rintro e w1 ⟨rfl, hb⟩; have B1 := Aside0.mk (below_step (below_drew1 (Below.refl w.heap.size w)) hb); have hk1 := blk_below (blk_drew HKB.out) hb; have y1 := blk_cell hk1 0; have q0 := blk_cell hk1 0; have q1 := blk_cell hk1 1; have q2 := blk_cell hk1 2; have HK1 := Aside0.mk hk1; clear hk1 hb))
    all_goals go_wp2
    all_goals go_ret
    exact ⟨by first | rfl | (unfold matchB; simp), B1.out⟩
  | some v =>
    rw [hf] at HH
    have hv := hL v hf
    cases hv0 : NeedN.num v.data.toList with
    | none =>
      have HP := Aside0.mk (fun w h => parse_no v hv hv0 w h)
      clear hk hC hm hks hL hE hop hl hx hx0
      go_enter Tryd.func29, Tryd.ntmps29
      go_wp2
      go_region_held3 (fun w' => w'.cell? ⟨N, 0, none⟩ = some (.string key)) (first | exact y0 | exact y1)
        (first | (go_at_call 123; refine (HH.out _ (HM.out.drew)).mono ?_; rintro e w1 ⟨rfl, hb⟩; have B1 := Aside0.mk (below_step (below_drew1 (Below.refl w.heap.size w)) hb); have hk1 := blk_below (blk_drew HKB.out) hb; have y1 := blk_cell hk1 0; have q0 := blk_cell hk1 0; have q1 := blk_cell hk1 1; have q2 := blk_cell hk1 2; have HK1 := Aside0.mk hk1; clear hk1 hb))
      all_goals go_wp2_with (first | (go_at_call 44; refine (HP.out _ (HEE.out.below B1.out)).mono ?_; rintro e w2 ⟨v1, N1, rfl, hb⟩; have B2 := Aside0.mk (below_step B1.out hb); clear hb))
      all_goals go_ret
      exact ⟨by first | (unfold matchB; simp only [hv0]; rfl) | (unfold matchB; simp [hv0]), B2.out⟩
    | some x =>
      have HP := Aside0.mk (fun w => parse_ok v x hv hv0 w)
      have HVAL : Aside0 (matchB [103, 116] [x0] (some v) = decide (x > y)) := ⟨by
        show (match NeedN.num v.data.toList, NeedN.num x0.data.toList with | some x, some y => decide (x > y) | _, _ => false) = _
        rw [hv0, hy]⟩
      clear hk hC hm hks hL hE hop hl hx hx0 hv0
      go_enter Tryd.func29, Tryd.ntmps29
      go_wp2
      go_region_held3 (fun w' => w'.cell? ⟨N, 0, none⟩ = some (.string key)) (first | exact y0 | exact y1)
        (first | (go_at_call 123; refine (HH.out _ (HM.out.drew)).mono ?_; rintro e w1 ⟨rfl, hb⟩; have B1 := Aside0.mk (below_step (below_drew1 (Below.refl w.heap.size w)) hb); have hk1 := blk_below (blk_drew HKB.out) hb; have y1 := blk_cell hk1 0; have q0 := blk_cell hk1 0; have q1 := blk_cell hk1 1; have q2 := blk_cell hk1 2; have HK1 := Aside0.mk hk1; clear hk1 hb))
      all_goals go_wp2_with (first | (go_at_call 44; refine (HP.out _).mono ?_; rintro e w2 ⟨rfl, hb⟩; have B2 := Aside0.mk (below_step B1.out hb); have hk2 := blk_below HK1.out hb; have r0 := blk_cell hk2 0; have r1 := blk_cell hk2 1; have r2 := blk_cell hk2 2; have HK2 := Aside0.mk hk2; clear hb hk2 q0 q1 q2 y1 y0 z0 z1 z2 HP))
      have hx2 := ((B2.out).cell (World.block_lt_of_cell? w _ HX.out)).trans HX.out
      refine wp_loop_rounds 2 ?_
      rw [rounds_succ]
      go_wp2_with (first | (go_at_call 44; refine (HP0.out _).mono ?_; rintro e w3 ⟨rfl, hb⟩; have B3 := Aside0.mk (below_step B2.out hb); have hk3 := blk_below HK2.out hb; have s0 := blk_cell hk3 0; have s1 := blk_cell hk3 1; have s2 := blk_cell hk3 2; clear hb hk3 r0 r1 r2))
      rw [rounds_succ]
      go_wp2
      all_goals go_ret
      all_goals refine ⟨?_, B3.out⟩
      all_goals rw [HVAL.out]
      all_goals first | rfl | (show Ending.returned (Value.bool true) = _; rw [decide_eq_true (by omega)])
set_option maxRecDepth 100000 in
set_option maxHeartbeats 4000000 in
theorem match_8 (N : Nat) (key op : ByteArray) (A : Option Addr) (c : Nat) (vals : List ByteArray) (b n : Nat) (L : List S37) (w : World) (hk : w.heap[N]? = some (.cells #[.string key, .string op, .slice A vals.length c] 54 (0, 0))) (hC : Kd.C Kd.string w A vals.length vals) (hn : vals.length ≤ 4294967296) (hm : IsMapS w b n L) (hks : key.size ≤ maxLen) (hL : ∀ v, findP L key = some v → v.size ≤ 4294967296) (hE : ErrOK w) (hop : op.data.toList = [108, 116]) (x0 : ByteArray) (y : Int) (h1 : vals = [x0]) (hy : NeedN.num x0.data.toList = some y) (hz : x0.size ≤ 4294967296) :
    Calls Tryd.prog 29 #[.pointer (some ⟨N, 0, none⟩), .iface 59 (.map (some b))] w fun e w' => e = .returned (.bool (matchB op.data.toList vals (findP L key))) ∧ Below w.heap.size w w' := by
  have mixed : Tryd.prog.follows .mixedOrders = true := by kernel_rfl
  have hl : op.toList = [108, 116] := by rw [toL, hop]
  have t0 : (op.toList == [105, 110]) = false := by rw [hl]; rfl
  have t1 : (op.toList == [110, 111, 116, 105, 110]) = false := by rw [hl]; rfl
  have t2 : (op.toList == [61]) = false := by rw [hl]; rfl
  have t3 : (op.toList == [61, 61]) = false := by rw [hl]; rfl
  have t4 : (op.toList == [33, 61]) = false := by rw [hl]; rfl
  have t5 : (op.toList == [101, 120, 105, 115, 116, 115]) = false := by rw [hl]; rfl
  have t6 : (op.toList == [33]) = false := by rw [hl]; rfl
  have t7 : (op.toList == [103, 116]) = false := by rw [hl]; rfl
  have t8 : (op.toList == [108, 116]) = true := by rw [hl]; rfl
  have z0 : w.cell? ⟨N, 0, none⟩ = some (.string key) := blk_cell hk 0
  have z1 : w.cell? ⟨N, 1, none⟩ = some (.string op) := blk_cell hk 1
  have z2 : w.cell? ⟨N, 2, none⟩ = some (.slice A vals.length c) := blk_cell hk 2
  have y0 : w.drew.cell? ⟨N, 0, none⟩ = some (.string key) := z0
  have HKB := Aside0.mk hk
  have HCC := Aside0.mk hC
  have HEE := Aside0.mk hE
  rw [hop]
  have HH := Aside0.mk (fun (w' : World) (h : IsMapS w' b n L) => lookup_any b n L key w' h hks)
  have HM := Aside0.mk hm
  have nal := na_Lookup b
  have mel := me_Lookup b
  subst h1
  have f1 : ([x0].length = 1) = True := eq_true rfl
  obtain ⟨ad, rfl, hx⟩ := Kd.at_string hC (0 : Int) (by omega) (by simp)
  have hx0 : w.cell? ad = some (.string x0) := by rw [show ((0 : Int)).toNat = 0 from rfl, Addr.add_zero'] at hx; simpa [rdOf] using hx
  have HX := Aside0.mk hx0
  have HP0 := Aside0.mk (fun w => parse_ok x0 y hz hy w)
  cases hf : findP L key with
  | none =>
    rw [hf] at HH
    clear hk hC hm hks hL hE hop hl hx hx0
    go_enter Tryd.func29, Tryd.ntmps29
    go_wp2
    go_region_held3 (fun w' => w'.cell? ⟨N, 0, none⟩ = some (.string key)) (first | exact y0 | exact y1)
      (first | (go_at_call 123; refine (HH.out _ (HM.out.drew)).mono ?_; rintro e w1 ⟨rfl, hb⟩; have B1 := Aside0.mk (below_step (below_drew1 (Below.refl w.heap.size w)) hb); have hk1 := blk_below (blk_drew HKB.out) hb; have y1 := blk_cell hk1 0; have q0 := blk_cell hk1 0; have q1 := blk_cell hk1 1; have q2 := blk_cell hk1 2; have HK1 := Aside0.mk hk1; clear hk1 hb))
    all_goals go_wp2
    all_goals go_ret
    exact ⟨by first | rfl | (unfold matchB; simp), B1.out⟩
  | some v =>
    rw [hf] at HH
    have hv := hL v hf
    cases hv0 : NeedN.num v.data.toList with
    | none =>
      have HP := Aside0.mk (fun w h => parse_no v hv hv0 w h)
      clear hk hC hm hks hL hE hop hl hx hx0
      go_enter Tryd.func29, Tryd.ntmps29
      go_wp2
      go_region_held3 (fun w' => w'.cell? ⟨N, 0, none⟩ = some (.string key)) (first | exact y0 | exact y1)
        (first | (go_at_call 123; refine (HH.out _ (HM.out.drew)).mono ?_; rintro e w1 ⟨rfl, hb⟩; have B1 := Aside0.mk (below_step (below_drew1 (Below.refl w.heap.size w)) hb); have hk1 := blk_below (blk_drew HKB.out) hb; have y1 := blk_cell hk1 0; have q0 := blk_cell hk1 0; have q1 := blk_cell hk1 1; have q2 := blk_cell hk1 2; have HK1 := Aside0.mk hk1; clear hk1 hb))
      all_goals go_wp2_with (first | (go_at_call 44; refine (HP.out _ (HEE.out.below B1.out)).mono ?_; rintro e w2 ⟨v1, N1, rfl, hb⟩; have B2 := Aside0.mk (below_step B1.out hb); clear hb))
      all_goals go_ret
      exact ⟨by first | (unfold matchB; simp only [hv0]; rfl) | (unfold matchB; simp [hv0]), B2.out⟩
    | some x =>
      have HP := Aside0.mk (fun w => parse_ok v x hv hv0 w)
      have HVAL : Aside0 (matchB [108, 116] [x0] (some v) = decide (x < y)) := ⟨by
        show (match NeedN.num v.data.toList, NeedN.num x0.data.toList with | some x, some y => decide (x < y) | _, _ => false) = _
        rw [hv0, hy]⟩
      clear hk hC hm hks hL hE hop hl hx hx0 hv0
      go_enter Tryd.func29, Tryd.ntmps29
      go_wp2
      go_region_held3 (fun w' => w'.cell? ⟨N, 0, none⟩ = some (.string key)) (first | exact y0 | exact y1)
        (first | (go_at_call 123; refine (HH.out _ (HM.out.drew)).mono ?_; rintro e w1 ⟨rfl, hb⟩; have B1 := Aside0.mk (below_step (below_drew1 (Below.refl w.heap.size w)) hb); have hk1 := blk_below (blk_drew HKB.out) hb; have y1 := blk_cell hk1 0; have q0 := blk_cell hk1 0; have q1 := blk_cell hk1 1; have q2 := blk_cell hk1 2; have HK1 := Aside0.mk hk1; clear hk1 hb))
      all_goals go_wp2_with (first | (go_at_call 44; refine (HP.out _).mono ?_; rintro e w2 ⟨rfl, hb⟩; have B2 := Aside0.mk (below_step B1.out hb); have hk2 := blk_below HK1.out hb; have r0 := blk_cell hk2 0; have r1 := blk_cell hk2 1; have r2 := blk_cell hk2 2; have HK2 := Aside0.mk hk2; clear hb hk2 q0 q1 q2 y1 y0 z0 z1 z2 HP))
      have hx2 := ((B2.out).cell (World.block_lt_of_cell? w _ HX.out)).trans HX.out
      refine wp_loop_rounds 2 ?_
      rw [rounds_succ]
      go_wp2_with (first | (go_at_call 44; refine (HP0.out _).mono ?_; rintro e w3 ⟨rfl, hb⟩; have B3 := Aside0.mk (below_step B2.out hb); have hk3 := blk_below HK2.out hb; have s0 := blk_cell hk3 0; have s1 := blk_cell hk3 1; have s2 := blk_cell hk3 2; clear hb hk3 r0 r1 r2))
      rw [rounds_succ]
      go_wp2
      all_goals go_ret
      all_goals refine ⟨?_, B3.out⟩
      all_goals rw [HVAL.out]
      all_goals first | rfl | (show Ending.returned (Value.bool true) = _; rw [decide_eq_true (by omega)])
end Go.Proofs.YtlhbmifffmegeaaDoor.MapS
