/- Labels match a requirement just as the five cases say: the law's walk. -/
import Derived.Test.YtlhbmifffmegeaaDoorNeedM
set_option linter.unusedVariables false
set_option linter.unusedSimpArgs false
namespace Go.Proofs.YtlhbmifffmegeaaDoor.NeedM
open Go Go.RowKit Go.Proofs.YtlhbmifffmegeaaDoor.PFnNeedMatch Go.Proofs.YtlhbmifffmegeaaDoorW.PrintWords Go.Proofs.YtlhbmifffmegeaaDoorW.PrintLast Go.Proofs.YtlhbmifffmegeaaDoor.Txt Go.Proofs.YtlhbmifffmegeaaDoor Go.Proofs.YtlhbmifffmegeaaDoor.MapS

theorem k10 {a b : ByteArray} {l : List ByteArray} {r : Bool} (h : Ev (fun k => laws_zzFits10.f k a b l) r) (A : Option Addr) (c : Nat) (w : World) (hr : Kd.C Kd.string w A l.length l) (hc : l.length ≤ c) : Calls Tryd.prog 6 #[.agg #[.string a, .string b, .slice A l.length c]] w fun e w' => e = .returned (.bool r) ∧ Below w.heap.size w w' := by
  obtain ⟨K, hK⟩ := h
  refine (laws_zzFits10.calls K a b A c l r w hr hc (hK K (Nat.le_refl _))).mono fun e w' hq => ?_
  exact ⟨hq.1, by first | exact hq.2 | exact hq.2.below⟩
theorem k2 {l : List S37} {r : Bool} (h : Ev (fun k => laws_zzFits2.f k l) r) (A : Option Addr) (c : Nat) (w : World) (hr : Kd.C k37 w A l.length l) (hc : l.length ≤ c) : Calls Tryd.prog 11 #[.slice A l.length c] w fun e w' => e = .returned (.bool r) ∧ Below w.heap.size w w' := by
  obtain ⟨K, hK⟩ := h
  refine (laws_zzFits2.calls K A c l r w hr hc (hK K (Nat.le_refl _))).mono fun e w' hq => ?_
  exact ⟨hq.1, by first | exact hq.2 | exact hq.2.below⟩
theorem kMay {a b : ByteArray} {l : List ByteArray} {r : Bool} (h : Ev (fun k => spec_NeedMay.f k a b l) r) (A : Option Addr) (c : Nat) (w : World) (hr : Kd.C Kd.string w A l.length l) (hc : l.length ≤ c) : Calls Tryd.prog 7 #[.agg #[.string a, .string b, .slice A l.length c]] w fun e w' => e = .returned (.bool r) ∧ Below w.heap.size w w' := by
  obtain ⟨K, hK⟩ := h
  refine (spec_NeedMay.calls K a b A c l r w hr hc (hK K (Nat.le_refl _))).mono fun e w' hq => ?_
  exact ⟨hq.1, by first | exact hq.2 | exact hq.2.below⟩
theorem kSpec {a b : ByteArray} {l : List ByteArray} {L : List S37} {r : Bool} (h : Ev (fun k => spec_NeedMatch.f k a b l L) r) (A : Option Addr) (c : Nat) (A1 : Option Addr) (c1 : Nat) (w : World) (hr : Kd.C Kd.string w A l.length l) (hc : l.length ≤ c) (hr1 : Kd.C k37 w A1 L.length L) (hc1 : L.length ≤ c1) : Calls Tryd.prog 13 #[.agg #[.string a, .string b, .slice A l.length c], .slice A1 L.length c1] w fun e w' => e = .returned (.bool r) ∧ Below w.heap.size w w' := by
  obtain ⟨K, hK⟩ := h
  refine (spec_NeedMatch.calls K a b A c l A1 c1 L r w hr hc hr1 hc1 (hK K (Nat.le_refl _))).mono fun e w' hq => ?_
  exact ⟨hq.1, by first | exact hq.2 | exact hq.2.below⟩
set_option maxRecDepth 100000 in
set_option maxHeartbeats 4000000 in
theorem law_walk (key op : ByteArray) (A : Option Addr) (c : Nat) (vals : List ByteArray) (A1 : Option Addr) (c1 : Nat) (L : List S37) (w : World) (hC : Kd.C Kd.string w A vals.length vals) (hc : vals.length ≤ c) (hr : Kd.C k37 w A1 L.length L) (hc1 : L.length ≤ c1) (hE : ErrOK w) :
    Calls Tryd.prog 4 #[.agg #[.string key, .string op, .slice A vals.length c], .slice A1 L.length c1] w fun e w' => e = .returned (.bool true) ∧ Below w.heap.size w w' := by
  have mixed : Tryd.prog.follows .mixedOrders = true := by kernel_rfl
  have hu1 := Tryd.underlying24
  obtain ⟨W0, hW0⟩ : ∃ W0, W0 = w.alloc (.cells #[.string key, .string op, .slice A vals.length c] 24) := ⟨_, rfl⟩
  have B0 : Aside0 (Below w.heap.size w W0) := ⟨by rw [hW0]; exact below_alloc (Below.refl _ _) _⟩
  have K0 : Aside0 (W0.heap[w.heap.size]? = some (.cells #[.string key, .string op, .slice A vals.length c] 24 (0, 0))) := ⟨by rw [hW0]; exact blk_new w _⟩
  have z0 : W0.cell? ⟨w.heap.size, 0, none⟩ = some (.string key) := blk_cell K0.out 0
  have z1 : W0.cell? ⟨w.heap.size, 1, none⟩ = some (.string op) := blk_cell K0.out 1
  have z2 : W0.cell? ⟨w.heap.size, 2, none⟩ = some (.slice A vals.length c) := blk_cell K0.out 2
  obtain ⟨r1, h1, q1⟩ := fits10_f key op vals
  have H1 := Aside0.mk (k10 h1 A c W0 (Kd.C_below hC B0.out) hc)
  cases r1
  · clear hC hr hE h1 q1
    go_enter Tryd.func4, Tryd.ntmps4
    go_wp2_with fail
    rw [← hW0]
    clear hW0
    go_wp2_with (first | (go_at_call 6; refine (H1.out).mono ?_; rintro e w1 ⟨rfl, hb⟩; have B1 := Aside0.mk (below_step B0.out hb); clear hb))
    go_ret
    exact ⟨rfl, B1.out⟩
  obtain ⟨hk, ho, hn, hvs⟩ := q1 rfl
  obtain ⟨r2, h2, q2⟩ := fits2_f L
  have H2 := Aside0.mk (fun (w1 : World) (x : Below w.heap.size w w1) => k2 h2 A1 c1 w1 (Kd.C_below hr x) hc1)
  cases r2
  · clear hC hr hE h1 q1 h2 q2 hk ho hn hvs
    go_enter Tryd.func4, Tryd.ntmps4
    go_wp2_with fail
    rw [← hW0]
    clear hW0
    go_wp2_with (first
      | (go_at_call 6; refine (H1.out).mono ?_; rintro e w1 ⟨rfl, hb⟩; have B1 := Aside0.mk (below_step B0.out hb); clear hb)
      | (go_at_call 11; refine (H2.out _ B1.out).mono ?_; rintro e w2 ⟨rfl, hb⟩; have B2 := Aside0.mk (below_step B1.out hb); clear hb))
    go_ret
    exact ⟨rfl, B2.out⟩
  obtain ⟨hL, hLs⟩ := q2 rfl
  obtain ⟨r3, h3, q3⟩ := may_any key op vals hk hn hvs
  have H3 := Aside0.mk (fun (w1 : World) (x : Below w.heap.size w w1) => kMay h3 A c w1 (Kd.C_below hC x) hc)
  cases r3
  · clear hC hr hE h1 q1 h2 q2 h3 q3 hk ho hn hvs hL hLs
    go_enter Tryd.func4, Tryd.ntmps4
    go_wp2_with fail
    rw [← hW0]
    clear hW0
    go_wp2_with (first
      | (go_at_call 6; refine (H1.out).mono ?_; rintro e w1 ⟨rfl, hb⟩; have B1 := Aside0.mk (below_step B0.out hb); have k1 := blk_below K0.out hb; have K1 := Aside0.mk k1; clear hb k1 z0 z1 z2 H1)
      | (go_at_call 11; refine (H2.out _ B1.out).mono ?_; rintro e w2 ⟨rfl, hb⟩; have B2 := Aside0.mk (below_step B1.out hb); have k2 := blk_below K1.out hb; have x0 := blk_cell k2 0; have x1 := blk_cell k2 1; have x2 := blk_cell k2 2; have K2 := Aside0.mk k2; clear hb k2 H2)
      | (go_at_call 7; refine (H3.out _ B2.out).mono ?_; rintro e w3 ⟨rfl, hb⟩; have B3 := Aside0.mk (below_step B2.out hb); clear hb H3))
    go_ret
    exact ⟨rfl, B3.out⟩
  have hok := needOk_of (q3 rfl)
  have hfind : ∀ v, findP L key = some v → v.size ≤ 4294967296 := fun v hv => by
    have : ∃ x ∈ L, x.f1 = v := by
      clear hr hL hLs h2 q2 H2 hc1
      induction L with
      | nil => simp [findP] at hv
      | cons y r ih =>
        rw [findP] at hv
        cases hf : findP r key with
        | some u => rw [hf] at hv; obtain ⟨x, hx, e⟩ := ih (by rw [hf]; exact hv); exact ⟨x, List.mem_cons_of_mem _ hx, e⟩
        | none =>
          rw [hf] at hv
          simp only at hv
          split at hv
          · exact ⟨y, List.mem_cons_self, Option.some.inj hv⟩
          · cases hv
    obtain ⟨x, hx, rfl⟩ := this
    have := (hLs x hx).2
    omega
  have H4 := Aside0.mk (fun (w1 : World) (x : Below w.heap.size w w1) => needMatch_any key op A c vals A1 c1 L w1 (Kd.C_below hC x) hc (by omega) (Kd.C_below hr x) (by omega) (fun y hy => by have := hLs y hy; omega) (by omega) (hE.below x) hok)
  have H5 := Aside0.mk (fun (w1 : World) (x : Below w.heap.size w w1) => kSpec (spec_any key op vals L (by omega) (by omega) hfind hok) A c A1 c1 w1 (Kd.C_below hC x) hc (Kd.C_below hr x) hc1)
  generalize matchB op.data.toList vals (findP L key) = res at H4 H5
  clear hC hr hE h1 q1 h2 q2 h3 q3 hk ho hn hvs hL hLs hok hfind
  have hres : (res == res) = true := beq_self_eq_true _
  go_enter Tryd.func4, Tryd.ntmps4
  go_wp2_with fail
  rw [← hW0]
  clear hW0
  go_wp2_with (first
    | (go_at_call 6; refine (H1.out).mono ?_; rintro e w1 ⟨rfl, hb⟩; have B1 := Aside0.mk (below_step B0.out hb); have k1 := blk_below K0.out hb; have K1 := Aside0.mk k1; clear hb k1 z0 z1 z2 H1)
    | (go_at_call 11; refine (H2.out _ B1.out).mono ?_; rintro e w2 ⟨rfl, hb⟩; have B2 := Aside0.mk (below_step B1.out hb); have k2 := blk_below K1.out hb; have x0 := blk_cell k2 0; have x1 := blk_cell k2 1; have x2 := blk_cell k2 2; have K2 := Aside0.mk k2; clear hb k2 H2)
    | (go_at_call 7; refine (H3.out _ B2.out).mono ?_; rintro e w3 ⟨rfl, hb⟩; have B3 := Aside0.mk (below_step B2.out hb); have k3 := blk_below K2.out hb; clear x0 x1 x2; have x0 := blk_cell k3 0; have x1 := blk_cell k3 1; have x2 := blk_cell k3 2; have K3 := Aside0.mk k3; clear hb k3 H3)
    | (go_at_call 12; refine (H4.out _ B3.out).mono ?_; rintro e w4 ⟨rfl, hb⟩; have B4 := Aside0.mk (below_step B3.out hb); have k4 := blk_below K3.out hb; clear x0 x1 x2; have x0 := blk_cell k4 0; have x1 := blk_cell k4 1; have x2 := blk_cell k4 2; clear hb k4 H4)
    | (go_at_call 13; refine (H5.out _ B4.out).mono ?_; rintro e w5 ⟨rfl, hb⟩; have B5 := Aside0.mk (below_step B4.out hb); clear hb H5))
  go_ret
  exact ⟨by first | rfl | simp, B5.out⟩
end Go.Proofs.YtlhbmifffmegeaaDoor.NeedM
