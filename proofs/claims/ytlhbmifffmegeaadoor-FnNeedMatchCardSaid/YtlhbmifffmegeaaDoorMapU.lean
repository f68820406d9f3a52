/- Pairs as labels; and what a requirement tells of them, as the door has it. -/
import Derived.Test.YtlhbmifffmegeaaDoorMapT
import Derived.Test.YtlhbmifffmegeaaDoorPFnNeedMatchx4
set_option linter.unusedVariables false
set_option linter.unusedSimpArgs false
namespace Go.Proofs.YtlhbmifffmegeaaDoor.MapS
open Go.RowKit Go.Maps Go.Proofs.YtlhbmifffmegeaaDoorW.PrintWords Go.Proofs.YtlhbmifffmegeaaDoor.PFnNeedMatch Go.Proofs.YtlhbmifffmegeaaDoor.Txt Go.Proofs.YtlhbmifffmegeaaDoor

theorem rd37 {l : List S37} {i : Nat} (h : i < l.length) : rd_T37 l (i : Int) = l[i] := by simp [rd_T37, List.getD_eq_getElem?_getD, List.getElem?_eq_getElem h]
theorem run_made (w : World) : (Instr.makeMap 59 none).run Tryd.prog w = .ok (.map (some w.heap.size)) (w.alloc (.map #[] 0)) := by
  simp [Instr.makeMap, run_underlying Tryd.underlying59, Result.andThen]
theorem put_some {D : DataW Unit} {L : List S37} {x : S37} (hm : IsMap D) (h : ∀ (k : ByteArray) (zd : DataW Unit), Maps.has D (.string k.data.toList) = (findP L k).isSome ∧ D.atKey (.string k.data.toList) zd = (match findP L k with | some v => .lit (.string v.data.toList) | none => zd)) (k : ByteArray) (zd : DataW Unit) :
    Maps.has (D.put (.string x.f0.data.toList) (.lit (.string x.f1.data.toList))) (.string k.data.toList) = (findP (L ++ [x]) k).isSome ∧ (D.put (.string x.f0.data.toList) (.lit (.string x.f1.data.toList))).atKey (.string k.data.toList) zd = (match findP (L ++ [x]) k with | some v => .lit (.string v.data.toList) | none => zd) := by
  rw [find_snoc]
  by_cases e : x.f0.data.toList = k.data.toList
  · rw [if_pos e, ← e, has_put_same hm (show WideAt.IsKeyLit (Lit.string x.f0.data.toList) from trivial), atKey_put_same hm (show WideAt.IsKeyLit (Lit.string x.f0.data.toList) from trivial)]
    exact ⟨rfl, rfl⟩
  · rw [if_neg e, has_put_other (fun z => e (by injection z with z; exact z.symm)), atKey_put_other (fun z => e (by injection z with z; exact z.symm))]
    exact h k zd
set_option maxRecDepth 100000 in
set_option maxHeartbeats 2000000 in
theorem labelSet_any (A : Option Addr) (c : Nat) (L : List S37) (w : World) (hr : Kd.C k37 w A L.length L) (hn : L.length ≤ 4294967296) (hsz : ∀ x ∈ L, x.f0.size ≤ 4294967296 ∧ x.f1.size ≤ 4294967296) :
    Calls Tryd.prog 30 #[.slice A L.length c] w fun e w' => ∃ b, e = .returned (.map (some b)) ∧ IsMapS w' b L.length L ∧ Below w.heap.size w w' := by
  have HR := Aside0.mk hr
  have HS := Aside0.mk hsz
  have hmm := run_made
  have hu := Tryd.underlying37
  obtain ⟨W0, hW0⟩ : ∃ W0, W0 = w.alloc (.map #[] 0) := ⟨_, rfl⟩
  have HM0 : Aside0 (IsMapS W0 w.heap.size 0 []) := ⟨by rw [hW0]; exact IsMapS.made w⟩
  have HB0 : Aside0 (Below w.heap.size w W0) := ⟨by rw [hW0]; exact below_alloc (Below.refl _ _) _⟩
  clear hr hsz
  go_enter Tryd.func30, Tryd.ntmps30
  go_wp2
  rw [← hW0]
  clear hmm hW0
  go_loopw [9] (fun i wr => ∃ k : Nat, k ≤ L.length ∧ i = .int .i64 (k : Int) ∧ Aside0 (IsMapS wr w.heap.size k (L.take k)) ∧ Aside0 (Below w.heap.size w wr)) (fun i _ => L.length - (intOf i).toNat)
  case atStart => exact ⟨0, Nat.zero_le _, rfl, ⟨by simpa using HM0.out⟩, HB0⟩
  case round =>
    clear HM0 HB0
    obtain ⟨k, hk, rfl, HM, HB⟩ := hrel
    by_cases hlt : k < L.length
    · have p : (0 ≤ (k : Int)) = True := eq_true (by omega)
      have q : ((k : Int) < (L.length : Int)) = True := eq_true (by omega)
      obtain ⟨ad, rfl, x0, x1⟩ := at_T37 HR.out (k : Int) (by omega) (by omega)
      simp only [Int.toNat_natCast] at x0 x1
      replace x0 := (HB.out.cell (World.block_lt_of_cell? w _ x0)).trans x0
      replace x1 := (HB.out.cell (World.block_lt_of_cell? w _ x1)).trans x1
      rw [rd37 hlt] at x0 x1
      have hz := HS.out _ (List.getElem_mem hlt)
      have ht : Aside0 (L.take (k + 1) = L.take k ++ [L[k]]) := ⟨List.take_succ_eq_append_getElem hlt⟩
      have hbn := HM.out.lt
      obtain ⟨D, hown, hD⟩ := HM.out
      have HD := Aside0.mk hD
      have HI := Aside0.mk (hown.isMap)
      have HO := Aside0.mk hown
      clear hD hown
      generalize L[k] = x at x0 x1 hz ht
      go_wp2_with (first | (at_mapUpdate; refine wpList_mapUpdate_own _ rfl _ _ _ 59 rfl 9 9 lawS Tryd.underlying59 (plainElem Tryd.prog 9) w.heap.size k D rfl (HO.out.alloc _) ?m1 _ _ _ rfl rfl (WideMaps.keyOf_string_mk Tryd.underlying9 (s := x.f0) ?m2) _ [] (plainElem_string Tryd.underlying9 (s := x.f1) ?m3) ?_; (case m1 => unfold maxLen; omega); (case m2 => unfold maxLen; omega); (case m3 => unfold maxLen; omega); intro w1 hown1 hgrow1; go_frame))
      have HO1 := Aside0.mk hown1
      have HG1 := Aside0.mk hgrow1
      clear hown1 hgrow1
      go_wp2
      go_roundw
      case rel =>
        refine ⟨k + 1, by omega, by go_num, ⟨⟨_, HO1.out, fun kk zd => ?_⟩⟩, ⟨(below_alloc HB.out _).grown HG1.out (by simp; omega) (fun j hj => by cases hj; exact Nat.le_refl _)⟩⟩
        rw [ht.out]
        exact put_some HI.out HD.out kk zd
      case measure => simp [intOf]; omega
    · have q : ((k : Int) < (L.length : Int)) = False := eq_false (by omega)
      go_wp2
      go_ret
      have : k = L.length := by omega
      subst this
      exact ⟨_, rfl, by have := HM.out; rw [List.take_length] at this; exact this, HB.out⟩
set_option maxRecDepth 100000 in
set_option maxHeartbeats 4000000 in
theorem needMatch_any (key op : ByteArray) (A : Option Addr) (c : Nat) (vals : List ByteArray) (A1 : Option Addr) (c1 : Nat) (L : List S37) (w : World) (hC : Kd.C Kd.string w A vals.length vals) (hc : vals.length ≤ c) (hn : vals.length ≤ 4294967296) (hr : Kd.C k37 w A1 L.length L) (hl : L.length ≤ 4294967296) (hsz : ∀ x ∈ L, x.f0.size ≤ 4294967296 ∧ x.f1.size ≤ 4294967296) (hks : key.size ≤ 4294967296) (hE : ErrOK w) (h : NeedOk op vals) :
    Calls Tryd.prog 12 #[.agg #[.string key, .string op, .slice A vals.length c], .slice A1 L.length c1] w fun e w' => e = .returned (.tuple #[.bool (matchB op.data.toList vals (findP L key)), .bool false]) ∧ Below w.heap.size w w' := by
  have mixed : Tryd.prog.follows .mixedOrders = true := by kernel_rfl
  have hu1 := Tryd.underlying24
  have HLS : Aside0 (∀ v, findP L key = some v → v.size ≤ 4294967296) := ⟨fun v hv => by
    have : ∃ x ∈ L, x.f1 = v := by
      clear hr hl hsz
      induction L with
      | nil => simp [findP] at hv
      | cons y r ih =>
        rw [findP] at hv
        cases hf : findP r key with
        | some u => rw [hf] at hv; obtain ⟨x, hx, e⟩ := ih (by rw [hf]; exact hv); exact ⟨x, List.mem_cons_of_mem _ hx, e⟩
        | none =>
          rw [hf] at hv
          simp only at hv
          split at hv
          · exact ⟨y, List.mem_cons_self, Option.some.inj hv⟩
          · cases hv
    obtain ⟨x, hx, rfl⟩ := this
    exact (hsz x hx).2⟩
  have HMD := Aside0.mk (fun (w1 : World) (x : Below w.heap.size w w1) => made_ok key op A c vals w1 (Kd.C_below hC x) hc hn h)
  have HLB := Aside0.mk (fun (w1 : World) (x : Below w.heap.size w w1) => labelSet_any A1 c1 L w1 (Kd.C_below hr x) hl hsz)
  have HN := Aside0.mk h
  have HE := Aside0.mk hE
  have hks' : key.size ≤ maxLen := by unfold maxLen; omega
  have HMT : Aside0 (∀ (N : Nat) (A' : Option Addr) (c' b : Nat) (w' : World), w'.heap[N]? = some (.cells #[.string key, .string op, .slice A' vals.length c'] 54 (0, 0)) → Kd.C Kd.string w' A' vals.length vals → IsMapS w' b L.length L → ErrOK w' → Calls Tryd.prog 29 #[.pointer (some ⟨N, 0, none⟩), .iface 59 (.map (some b))] w' fun e w'' => e = .returned (.bool (matchB op.data.toList vals (findP L key))) ∧ Below w'.heap.size w' w'') := ⟨fun N A' c' b w' k1 k2 k3 k4 => by
    have hs := HLS.out
    rcases HN.out with ⟨h | h, hv⟩ | ⟨h | h | h, hv⟩ | ⟨h | h, hv⟩ | ⟨h | h, v, y, hv, hp, hz⟩
    · exact match_0 N key op A' c' vals b _ L w' k1 k2 hn k3 hks' hs k4 h
    · exact match_1 N key op A' c' vals b _ L w' k1 k2 hn k3 hks' hs k4 h
    · exact match_2 N key op A' c' vals b _ L w' k1 k2 hn k3 hks' hs k4 h
    · exact match_3 N key op A' c' vals b _ L w' k1 k2 hn k3 hks' hs k4 h
    · exact match_4 N key op A' c' vals b _ L w' k1 k2 hn k3 hks' hs k4 h
    · exact match_5 N key op A' c' vals b _ L w' k1 k2 hn k3 hks' hs k4 h
    · exact match_6 N key op A' c' vals b _ L w' k1 k2 hn k3 hks' hs k4 h
    · exact match_7 N key op A' c' vals b _ L w' k1 k2 hn k3 hks' hs k4 h v y hv (by rw [← NeedN.num_parse, hp]; rfl) hz
    · exact match_8 N key op A' c' vals b _ L w' k1 k2 hn k3 hks' hs k4 h v y hv (by rw [← NeedN.num_parse, hp]; rfl) hz⟩
  have B0 : Aside0 (Below w.heap.size w (w.alloc (.cells #[.string key, .string op, .slice A vals.length c] 24))) := ⟨below_alloc (Below.refl _ _) _⟩
  generalize matchB op.data.toList vals (findP L key) = res at HMT ⊢
  clear hC hc hr hl hsz hks hE h HLS HN hn hks'
  go_enter Tryd.func12, Tryd.ntmps12
  go_wp2_with fail
  refine (HMD.out _ B0.out).mono ?_
  rintro e w1 ⟨N, A', c', rfl, hN, hk, hcc, hC1, hb⟩
  have B1 := Aside0.mk (below_step B0.out hb)
  have HK := Aside0.mk hk
  have HC := Aside0.mk hC1
  clear hk hcc hC1 hN hb B0 HMD
  go_wp2_with (first
    | (go_at_call 30; refine (HLB.out _ B1.out).mono ?_; rintro e w2 ⟨b, rfl, hm, hb⟩; have B2 := Aside0.mk (below_step B1.out hb); have HK2 := Aside0.mk (blk_below HK.out hb); have HC2 := Aside0.mk (Kd.C_below HC.out hb); have HM2 := Aside0.mk hm; clear hm hb HLB)
    | (go_at_call 29; refine (HMT.out N A' c' b _ HK2.out HC2.out HM2.out (HE.out.below B2.out)).mono ?_; rintro e w3 ⟨rfl, hb⟩; have B3 := Aside0.mk (below_step B2.out hb); clear hb HMT))
  go_ret2
  exact ⟨rfl, B3.out⟩
end Go.Proofs.YtlhbmifffmegeaaDoor.MapS
