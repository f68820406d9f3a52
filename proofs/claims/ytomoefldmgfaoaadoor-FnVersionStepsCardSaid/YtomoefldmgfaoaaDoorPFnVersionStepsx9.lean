/- Functions of the program as plain Lean functions, and that the machine's calls do what these say: written for this claim by wip/myprint.py over the kit's print.py. -/
import Derived.Test.YtomoefldmgfaoaaDoorPFnVersionStepsx0
namespace Go.Proofs.YtomoefldmgfaoaaDoor.PFnVersionSteps
open Go.RowKit Go.Proofs.YtomoefldmgfaoaaDoorW.PrintWords Go.Proofs.YtomoefldmgfaoaaDoorW.PrintLast Go.Proofs.YtomoefldmgfaoaaDoorW.PrintMore
attribute [local go_sem] max2_int min2_int max_two min_two max_three min_three max_four min_four   -- for this text's walks alone
set_option linter.unusedVariables false
set_option linter.unusedSimpArgs false

/-! ### impl_VersionSteps: function 18 -/
def verData (q : Pv.Pd) : S28 := ⟨true, Pv.zs q.2.1, Pv.mk q.2.2.1, Pv.mk q.2.2.2, Pv.mk (Pv.vtxt q.2.1 q.2.2.1 q.2.2.2), (Pv.pt q.2.1 0 : Int), (Pv.pt q.2.1 1 : Int), (Pv.pt q.2.1 2 : Int)⟩
def stepsV : Pv.Pd → List S47 → List Pv.Pd
 | _, [] => []
 | q, x :: r => Pv.stepV q x.f0 x.f1.toNat x.f2 (Pv.Lb x.f3) :: stepsV (Pv.stepV q x.f0 x.f1.toNat x.f2 (Pv.Lb x.f3)) r
def stepFits (x : S47) : Bool := decide (-9223372036854775808 ≤ x.f0) && decide (x.f0 ≤ 9223372036854775807) && (decide (0 ≤ x.f1) && decide (x.f1 < 18446744073709551616)) && (decide (-9223372036854775808 ≤ x.f2) && decide (x.f2 ≤ 9223372036854775807)) && decide (x.f3.size ≤ 549755813888)
def impl_VersionSteps.f (a0 : Int) (a1 : ByteArray) (l2 : List S47) : Option (List S28) :=
 if a1.size ≤ 549755813888 ∧ l2.length ≤ 4294967296 ∧ l2.all stepFits = true then
  match Pv.pkind a0 (Pv.Lb a1) with
  | none => some []
  | some q => some (verData q :: (stepsV q l2).map verData)
 else none
theorem verData_info : (Tryd.prog.info? 28).map (fun i => (i.zero, i.size, i.bytes)) = some (some Pv.verNil, 8, 104) := by kernel_rfl
theorem mk_LbS (s : ByteArray) : Pv.mk (Pv.Lb s) = s := Go.Proofs.YtomoefldmgfaoaaDoor.Txt.ext rfl
theorem row_ne_after {v v1 : Value} {W : World} {g : Nat} (h : some g ≠ v.ownBlock) (hlt : g < W.heap.size) (hat : v1.ownBlock = v.ownBlock ∨ ∃ b, v1.ownBlock = some b ∧ W.heap.size ≤ b) : some g ≠ v1.ownBlock := by
 rcases hat with e | ⟨b, e, hb⟩
 ·
  rw [e]; exact h
 ·
  rw [e]; intro h; injection h with h; omega
theorem ver_grown {W w1 : World} {g c : Nat} {ns : List Nat} {sem : Bool} {p b : ByteArray} {row : Option Nat} (hv : Pv.IsVer W g c ns sem p b) (hg : W.grownBy w1 row) (h1 : some g ≠ row) (h2 : some c ≠ row) : Pv.IsVer w1 g c ns sem p b := ⟨blk_grown hv.1 hg h1, blk_grown hv.2 hg h2⟩
/-- A row of versions, one more of which is put to its end, beside the version that is held. -/
def SteadyV (w wr : World) (o : Value) (g c : Nat) (q : Pv.Pd) (xs : List S28) : Prop := Pv.IsVer wr g c q.2.1 q.1 (Pv.mk q.2.2.1) (Pv.mk q.2.2.2) ∧ Pv.FitP 549755813888 q ∧ Kd.R k28 28 wr w.heap.size (fun _ => True) o xs ∧ (some g ≠ o.ownBlock ∧ some c ≠ o.ownBlock) ∧ Below w.heap.size w wr
set_option maxHeartbeats 25600000 in
set_option maxRecDepth 100000 in
theorem impl_VersionSteps.calls (a0 : Int) (a1 : ByteArray) (A2 : Option Addr) (c2 : Nat) (l2 : List S47) (r : List S28) (w : World) (hr2 : Kd.C k47 w A2 l2.length l2) (hc2 : l2.length ≤ c2) (h : impl_VersionSteps.f a0 a1 l2 = some r) (hg : Pv.Good w) :
  Calls Tryd.prog 18 #[.int .i64 a0, .string a1, .slice A2 l2.length c2] w fun e w' => ∃ v0_ : Value, e = .returned (v0_) ∧ Kd.R k28 28 w' w.heap.size (fun _ => True) v0_ r ∧ Below w.heap.size w w' := by
 have mixed : Tryd.prog.follows .mixedOrders = true := by kernel_rfl
 have hu2 := Tryd.underlying28
 unfold impl_VersionSteps.f at h
 by_cases hs : a1.size ≤ 549755813888 ∧ l2.length ≤ 4294967296 ∧ l2.all stepFits = true
 ·
  rw [if_pos hs] at h
  obtain ⟨hs1, hs2, hs3⟩ := hs
  have HS3 := aM_ hs3
  have HR := aM_ hr2
  have HG := aM_ hg
  have HP := aM_ (fun w hg => Pv.parsed_calls a0 a1 (by omega) w hg)
  have hlen : (Pv.Lb a1).length ≤ 549755813888 := by have : a1.size = (Pv.Lb a1).length := Go.Proofs.YtomoefldmgfaoaaDoor.Txt.size_len a1; omega
  have HL := aM_ hs2
  clear hs1 hs3 hr2 hg hc2 hs2
  cases hk : Pv.pkind a0 (Pv.Lb a1) with
  | none =>
   have H1 := aM_ hk
   rw [hk] at h
   obtain rfl := Option.some.inj h
   clear hk hlen h
   go_enter Tryd.func18, Tryd.ntmps18
   go_wp2_with (go_at_call 36; (with_reducible refine (HP.out _ HG.out).mono ?_); rintro e w1 ⟨ht, hb⟩; rw [H1.out] at ht; obtain ⟨T, x, rfl⟩ := ht; have B1 := aM_ hb; clear hb)
   go_ret
   exact ⟨_, rfl, Kd.R_nil _ _ _ _ _, B1.out⟩
  | some q0 =>
   have H1 := aM_ hk
   rw [hk] at h
   obtain rfl := Option.some.inj h
   have hf0 : Pv.FitP 549755813888 q0 := by
    have hf := Pv.pkind_fit hk
    exact ⟨hf.1, by have := hf.2.1; omega, hf.2.2.1, by have := hf.2.2.2.1; omega, by have := hf.2.2.2.2; omega⟩
   have HF0 := aM_ hf0
   have HF1 : Aside0 (2 ≤ q0.2.1.length) := ⟨hf0.1⟩
   have HV := aM_ (fun (Q : Pv.Pd) (hf : Pv.FitP 549755813888 Q) g c w hv hg => Pv.ver_calls g c Q.2.1 Q.1 Q.2.2.1 Q.2.2.2 hf.1 hf.2.2.1 (by have := hf.2.1; omega) (by have := hf.2.2.2.1; omega) (by have := hf.2.2.2.2; omega) w hv hg)
   clear hk hlen h hf0
   go_enter Tryd.func18, Tryd.ntmps18
   go_wp2_with (first
    | (go_at_call 36; (with_reducible refine (HP.out _ HG.out).mono ?_); rintro e w1 ⟨ht, hb⟩; rw [H1.out] at ht; obtain ⟨g0, c0, rfl, hv, hg1, hc1⟩ := ht; have V1 := aM_ hv; have B1 := aM_ hb; clear hb hv hg1 hc1)
    | (go_at_call 29; (with_reducible refine (HV.out q0 HF0.out _ _ _ V1.out (HG.out.below B1.out)).mono ?_); rintro e w2 ⟨v0, rfl, hr, hb⟩; obtain ⟨bc, cp, e9, h9, -, -⟩ := Kd.R_form hr (by rw [List.length_map]; have := HF1.out; omega); rw [List.length_map] at e9; subst e9; have B2 := aM_ (below_step B1.out hb); have V2 := aM_ (V1.out.below hb); have O2 := aM_ hr; have Z2 := aM_ hb.size; clear hb hr h9)
    | ((with_reducible refine gate_dst (N := 22) rfl ?_); refine Kd.R_lit k28 (w0 := w) w.heap.size 28 ?hg (N := 22) ?hd (xs := [verData q0]) (inner := [.bool true, .slice (some ⟨bc, 0, none⟩) q0.2.1.length cp, .string (Pv.mk q0.2.2.1), .string (Pv.mk q0.2.2.2), .string (Pv.mk (Pv.vtxt q0.2.1 q0.2.2.1 q0.2.2.2)), .int .u64 (Pv.pt q0.2.1 0 : Int), .int .u64 (Pv.pt q0.2.1 1 : Int), .int .u64 (Pv.pt q0.2.1 2 : Int)]) (ok := fun _ => True) (okp := fun _ => True) ?hr ?hp (fun _ _ => trivial) trivial ?hB ?hZ (by simp) ?_; (case hd => rfl); (case hg => rfl); (case hr => first | (go_simp; done) | (go_simp; rfl)); (case hB => exact B2.out); (case hZ => exact B2.out.size); (case hp => exact (Reps.none _ _).snoc (k28_mkM _ _ _ (verData q0) (Kd.R_lower O2.out B1.out.size)) rfl); intro v3 w3 ho hb hgr hat; obtain ⟨b3, hb3, hle3⟩ := hat; have G2 := HG.out; have S3 : Aside0 (SteadyV w w3 v3 g0 c0 q0 [verData q0]) := ⟨⟨ver_grown V2.out hgr (by simp) (by simp), HF0.out, ho, ⟨by rw [hb3]; intro h; injection h with h; have := blk_lt V2.out.1; omega, by rw [hb3]; intro h; injection h with h; have := blk_lt V2.out.2; omega⟩, hb⟩⟩; clear ho hb hgr hb3 hle3 G2))
   go_loopw [7, 9, 25] (fun v o n wr => ∃ (i : Nat) (q : Pv.Pd) (xs : List S28) (g c : Nat), i ≤ l2.length ∧ v = .pointer (some ⟨g, 0, none⟩) ∧ n = .int .i64 (i : Int) ∧ Aside0 (SteadyV w wr o g c q xs) ∧ Aside0 (xs ++ (stepsV q (l2.drop i)).map verData = verData q0 :: (stepsV q0 l2).map verData) ∧ Aside0 (xs.length = i + 1)) (fun _ _ n _ => ((l2.length : Int) - intOf n).toNat)
   case atStart => exact ⟨0, q0, [verData q0], g0, c0, Nat.zero_le _, rfl, rfl, S3, ⟨by rw [List.drop_zero]; rfl⟩, ⟨rfl⟩⟩
   case round =>
    clear V1 B1 B2 V2 O2 Z2 S3 H1 HP
    obtain ⟨i, q, xs, g, c, hi, rfl, rfl, S, HX, HN⟩ := hrel
    by_cases hlt : i < l2.length
    ·
     have p : ((i : Int) < (l2.length : Int)) = True := eq_true (by omega)
     have p' : decide ((i : Int) < (l2.length : Int)) = true := decide_eq_true (by omega)
     have p0 : (0 ≤ (i : Int)) = True := eq_true (by omega)
     have hw : wrap64 ((i : Int) + 1) = ((i + 1 : Nat) : Int) := by have := HL.out; unfold wrap64; omega
     have HW := aM_ hw
     have HI := aM_ (show i + 1 ≤ l2.length by omega)
     have HM := aM_ (show ((l2.length : Int) - ((i + 1 : Nat) : Int)).toNat < ((l2.length : Int) - (i : Int)).toNat by omega)
     obtain ⟨ad, eA, hx0, hx1, hx2, hx3⟩ := at_T47 (Kd.C_below HR.out (And.right (And.right (And.right (And.right S.out))))) (i : Int) (by omega) (by omega)
     cases eA
     have hrd : rd_T47 l2 (i : Int) = l2[i] := by unfold rd_T47; rw [Int.toNat_natCast, List.getD_eq_getElem?_getD, List.getElem?_eq_getElem hlt]; rfl
     have hfit : stepFits l2[i] = true := List.all_eq_true.1 HS3.out _ (List.getElem_mem hlt)
     have hst : stepsV q (l2.drop i) = Pv.stepV q l2[i].f0 l2[i].f1.toNat l2[i].f2 (Pv.Lb l2[i].f3) :: stepsV (Pv.stepV q l2[i].f0 l2[i].f1.toNat l2[i].f2 (Pv.Lb l2[i].f3)) (l2.drop (i + 1)) := by rw [List.drop_eq_getElem_cons hlt, stepsV]
     rw [hrd] at hx0 hx1 hx2 hx3
     rw [Int.toNat_natCast] at hx0 hx1 hx2 hx3
     have HX2 := HX.out
     rw [hst] at HX2
     clear hrd hst HX hw hi
     generalize l2[i] = x at hx0 hx1 hx2 hx3 hfit HX2
     obtain ⟨d, n, off, s⟩ := x
     unfold stepFits at hfit
     simp only [Bool.and_eq_true, decide_eq_true_eq] at hfit
     obtain ⟨⟨⟨⟨hd0, hd1⟩, hn0, hn1⟩, ho0, ho1⟩, hsz⟩ := hfit
     obtain ⟨u, rfl⟩ := Int.eq_ofNat_of_zero_le hn0
     simp only [Int.toNat_natCast] at HX2 hx0 hx1 hx2 hx3
     obtain ⟨hv, hf, hro, hne, hB⟩ := S.out
     have hls : (Pv.Lb s).length ≤ 549755813888 := by have e : s.size = (Pv.Lb s).length := Go.Proofs.YtomoefldmgfaoaaDoor.Txt.size_len s; omega
     have hfQ := Pv.stepV_fit hf (by omega) d u (by omega) off (Pv.Lb s) hls
     obtain ⟨Q, hQ⟩ : ∃ Q, Q = Pv.stepV q d u off (Pv.Lb s) := ⟨_, rfl⟩
     rw [← hQ] at hfQ HX2
     have FQ := aM_ hfQ
     have HX := aM_ HX2
     obtain ⟨gO, cO, eO, hO1, hO2, cellsO, hO3⟩ := Kd.R_form hro (by rw [HN.out]; omega)
     subst eO
     have SV_ := aM_ hv
     have SF1 : Aside0 (2 ≤ q.2.1.length) := ⟨hf.1⟩
     have SF3 : Aside0 (∀ m ∈ q.2.1, m < 18446744073709551616) := ⟨hf.2.2.1⟩
     have FQ1 : Aside0 (2 ≤ Q.2.1.length) := ⟨hfQ.1⟩
     have SN1 : Aside0 (g ≠ gO) := ⟨fun h => hne.1 (by simp [Value.ownBlock, h])⟩
     have SN2 : Aside0 (c ≠ gO) := ⟨fun h => hne.2 (by simp [Value.ownBlock, h])⟩
     have SO := aM_ hro
     have SB := aM_ hB
     have LO := aM_ hO2
     clear S hv hf hro hne hB hfQ HX2 hO1 hO2 hO3 hls cellsO hlt hd0 hd1 hn0
     have HO0 := aM_ ho0
     have HO1 := aM_ ho1
     clear ho0 ho1 hn1 hsz
     by_cases hd0 : d = 0
     ·
      subst hd0
      have HQ := aM_ hQ
      clear hQ
      go_wp2_with (first
       | (go_at_call 43; (with_reducible refine (Pv.withMajor_calls g c q.2.1 q.1 _ _ SF1.out u _ (SV_.out.below (bB_ (Below.refl _ _) _))).mono ?_); rintro e w2 ⟨⟨g2, c2, rfl, hv2, h5, h6⟩, hb⟩; have B2 := aM_ (below_step (bB_ SB.out _) hb); have V2 : Aside0 (Pv.IsVer w2 g2 c2 Q.2.1 Q.1 (Pv.mk Q.2.2.1) (Pv.mk Q.2.2.2)) := ⟨by rw [HQ.out]; exact hv2⟩; have O2 := aM_ (Kd.R_below (kA_ SO.out _) hb); have N2 : Aside0 (g2 ≠ gO ∧ c2 ≠ gO) := ⟨by have := LO.out; simp at h5 h6; omega, by have := LO.out; simp at h5 h6; omega⟩; have Z2 : Aside0 (gO < w2.heap.size) := ⟨by have := LO.out; have := hb.size; simp at this; omega⟩; clear hb hv2 h5 h6)
       | (go_at_call 29; (with_reducible refine (HV.out Q FQ.out _ _ _ V2.out (HG.out.below B2.out)).mono ?_); rintro e w3 ⟨v0, rfl, hr, hb⟩; obtain ⟨bc, cp, e9, h9, -, -⟩ := Kd.R_form hr (by rw [List.length_map]; have := FQ1.out; omega); rw [List.length_map] at e9; subst e9; have B3 := aM_ (below_step B2.out hb); have V3 := aM_ (V2.out.below hb); have O3 := aM_ (Kd.R_below O2.out hb); have P3 := aM_ hr; have Z3 : Aside0 (bc ≠ gO) := ⟨by have := Z2.out; (try simp at h9); omega⟩; clear hb hr h9)
       | ((with_reducible refine gate_builtin (b := .append) (xs := #[.tmp 77, .tmp 80]) rfl ?_); at_builtin; refine Kd.R_append k28 (w0 := w) w.heap.size rfl (.tmp 77) (.tmp 80) 42 28 Pv.verNil 104 rfl Tryd.underlying42 verData_info rfl (by decide) (by omega) (.slice (some ⟨gO, 0, none⟩) xs.length cO) xs (verData Q) [.bool true, .slice (some ⟨bc, 0, none⟩) Q.2.1.length cp, .string (Pv.mk Q.2.2.1), .string (Pv.mk Q.2.2.2), .string (Pv.mk (Pv.vtxt Q.2.1 Q.2.2.1 Q.2.2.2)), .int .u64 (Pv.pt Q.2.1 0 : Int), .int .u64 (Pv.pt Q.2.1 1 : Int), .int .u64 (Pv.pt Q.2.1 2 : Int)] (fun _ => True) (fun k => k = bc) rfl rfl ?aP ?aK (fun _ _ => trivial) ?aO ?aB ?aS ?aL ?_; (case aP => exact k28_mkM _ _ _ (verData Q) (Kd.R_lower (Kd.R_of_own (h1 := fun _ => rfl) (Kd.own_of_R P3.out) (fun k hk => by simpa [Value.ownBlock] using hk.symm)) B2.out.size)); (case aK => exact fun k hk => ⟨trivial, by rw [hk]; intro h; simp [Value.ownBlock] at h; exact Z3.out h⟩); (case aB => exact B3.out); (case aO => exact O3.out); (case aS => exact B3.out.size); (case aL => have := HN.out; have := HL.out; have := HI.out; omega); intro v4 w4 ho hb hgr hat; have S4 : Aside0 (SteadyV w w4 v4 g2 c2 Q (xs ++ [verData Q])) := ⟨⟨ver_grown V3.out hgr (by intro h; simp [Value.ownBlock] at h; exact N2.out.1 h) (by intro h; simp [Value.ownBlock] at h; exact N2.out.2 h), FQ.out, ho, ⟨row_ne_after (by intro h; simp [Value.ownBlock] at h; exact N2.out.1 h) (blk_lt V3.out.1) hat, row_ne_after (by intro h; simp [Value.ownBlock] at h; exact N2.out.2 h) (blk_lt V3.out.2) hat⟩, hb⟩⟩; clear ho hb hgr hat))
      rw [HW.out]
      go_roundw
      case measure => exact HM.out
      case rel => exact ⟨i + 1, Q, xs ++ [verData Q], g2, c2, HI.out, rfl, rfl, S4, ⟨by rw [List.append_assoc]; exact HX.out⟩, ⟨by rw [List.length_append, HN.out]; rfl⟩⟩
     have t0 : (d == 0) = false := beq_eq_false_iff_ne.2 hd0
     by_cases hd1 : d = 1
     ·
      subst hd1
      have HQ := aM_ hQ
      clear hQ
      go_wp2_with (first
       | (go_at_call 44; (with_reducible refine (Pv.withMinor_calls g c q.2.1 q.1 _ _ SF1.out u _ (SV_.out.below (bB_ (Below.refl _ _) _))).mono ?_); rintro e w2 ⟨⟨g2, c2, rfl, hv2, h5, h6⟩, hb⟩; have B2 := aM_ (below_step (bB_ SB.out _) hb); have V2 : Aside0 (Pv.IsVer w2 g2 c2 Q.2.1 Q.1 (Pv.mk Q.2.2.1) (Pv.mk Q.2.2.2)) := ⟨by rw [HQ.out]; exact hv2⟩; have O2 := aM_ (Kd.R_below (kA_ SO.out _) hb); have N2 : Aside0 (g2 ≠ gO ∧ c2 ≠ gO) := ⟨by have := LO.out; simp at h5 h6; omega, by have := LO.out; simp at h5 h6; omega⟩; have Z2 : Aside0 (gO < w2.heap.size) := ⟨by have := LO.out; have := hb.size; simp at this; omega⟩; clear hb hv2 h5 h6)
       | (go_at_call 29; (with_reducible refine (HV.out Q FQ.out _ _ _ V2.out (HG.out.below B2.out)).mono ?_); rintro e w3 ⟨v0, rfl, hr, hb⟩; obtain ⟨bc, cp, e9, h9, -, -⟩ := Kd.R_form hr (by rw [List.length_map]; have := FQ1.out; omega); rw [List.length_map] at e9; subst e9; have B3 := aM_ (below_step B2.out hb); have V3 := aM_ (V2.out.below hb); have O3 := aM_ (Kd.R_below O2.out hb); have P3 := aM_ hr; have Z3 : Aside0 (bc ≠ gO) := ⟨by have := Z2.out; (try simp at h9); omega⟩; clear hb hr h9)
       | ((with_reducible refine gate_builtin (b := .append) (xs := #[.tmp 77, .tmp 80]) rfl ?_); at_builtin; refine Kd.R_append k28 (w0 := w) w.heap.size rfl (.tmp 77) (.tmp 80) 42 28 Pv.verNil 104 rfl Tryd.underlying42 verData_info rfl (by decide) (by omega) (.slice (some ⟨gO, 0, none⟩) xs.length cO) xs (verData Q) [.bool true, .slice (some ⟨bc, 0, none⟩) Q.2.1.length cp, .string (Pv.mk Q.2.2.1), .string (Pv.mk Q.2.2.2), .string (Pv.mk (Pv.vtxt Q.2.1 Q.2.2.1 Q.2.2.2)), .int .u64 (Pv.pt Q.2.1 0 : Int), .int .u64 (Pv.pt Q.2.1 1 : Int), .int .u64 (Pv.pt Q.2.1 2 : Int)] (fun _ => True) (fun k => k = bc) rfl rfl ?aP ?aK (fun _ _ => trivial) ?aO ?aB ?aS ?aL ?_; (case aP => exact k28_mkM _ _ _ (verData Q) (Kd.R_lower (Kd.R_of_own (h1 := fun _ => rfl) (Kd.own_of_R P3.out) (fun k hk => by simpa [Value.ownBlock] using hk.symm)) B2.out.size)); (case aK => exact fun k hk => ⟨trivial, by rw [hk]; intro h; simp [Value.ownBlock] at h; exact Z3.out h⟩); (case aB => exact B3.out); (case aO => exact O3.out); (case aS => exact B3.out.size); (case aL => have := HN.out; have := HL.out; have := HI.out; omega); intro v4 w4 ho hb hgr hat; have S4 : Aside0 (SteadyV w w4 v4 g2 c2 Q (xs ++ [verData Q])) := ⟨⟨ver_grown V3.out hgr (by intro h; simp [Value.ownBlock] at h; exact N2.out.1 h) (by intro h; simp [Value.ownBlock] at h; exact N2.out.2 h), FQ.out, ho, ⟨row_ne_after (by intro h; simp [Value.ownBlock] at h; exact N2.out.1 h) (blk_lt V3.out.1) hat, row_ne_after (by intro h; simp [Value.ownBlock] at h; exact N2.out.2 h) (blk_lt V3.out.2) hat⟩, hb⟩⟩; clear ho hb hgr hat))
      rw [HW.out]
      go_roundw
      case measure => exact HM.out
      case rel => exact ⟨i + 1, Q, xs ++ [verData Q], g2, c2, HI.out, rfl, rfl, S4, ⟨by rw [List.append_assoc]; exact HX.out⟩, ⟨by rw [List.length_append, HN.out]; rfl⟩⟩
     have t1 : (d == 1) = false := beq_eq_false_iff_ne.2 hd1
     by_cases hd2 : d = 2
     ·
      subst hd2
      have HQ := aM_ hQ
      clear hQ
      go_wp2_with (first
       | (go_at_call 45; (with_reducible refine (Pv.withPatch_calls g c q.2.1 q.1 _ _ SF1.out u _ (SV_.out.below (bB_ (Below.refl _ _) _))).mono ?_); rintro e w2 ⟨⟨g2, c2, rfl, hv2, h5, h6⟩, hb⟩; have B2 := aM_ (below_step (bB_ SB.out _) hb); have V2 : Aside0 (Pv.IsVer w2 g2 c2 Q.2.1 Q.1 (Pv.mk Q.2.2.1) (Pv.mk Q.2.2.2)) := ⟨by rw [HQ.out]; exact hv2⟩; have O2 := aM_ (Kd.R_below (kA_ SO.out _) hb); have N2 : Aside0 (g2 ≠ gO ∧ c2 ≠ gO) := ⟨by have := LO.out; simp at h5 h6; omega, by have := LO.out; simp at h5 h6; omega⟩; have Z2 : Aside0 (gO < w2.heap.size) := ⟨by have := LO.out; have := hb.size; simp at this; omega⟩; clear hb hv2 h5 h6)
       | (go_at_call 29; (with_reducible refine (HV.out Q FQ.out _ _ _ V2.out (HG.out.below B2.out)).mono ?_); rintro e w3 ⟨v0, rfl, hr, hb⟩; obtain ⟨bc, cp, e9, h9, -, -⟩ := Kd.R_form hr (by rw [List.length_map]; have := FQ1.out; omega); rw [List.length_map] at e9; subst e9; have B3 := aM_ (below_step B2.out hb); have V3 := aM_ (V2.out.below hb); have O3 := aM_ (Kd.R_below O2.out hb); have P3 := aM_ hr; have Z3 : Aside0 (bc ≠ gO) := ⟨by have := Z2.out; (try simp at h9); omega⟩; clear hb hr h9)
       | ((with_reducible refine gate_builtin (b := .append) (xs := #[.tmp 77, .tmp 80]) rfl ?_); at_builtin; refine Kd.R_append k28 (w0 := w) w.heap.size rfl (.tmp 77) (.tmp 80) 42 28 Pv.verNil 104 rfl Tryd.underlying42 verData_info rfl (by decide) (by omega) (.slice (some ⟨gO, 0, none⟩) xs.length cO) xs (verData Q) [.bool true, .slice (some ⟨bc, 0, none⟩) Q.2.1.length cp, .string (Pv.mk Q.2.2.1), .string (Pv.mk Q.2.2.2), .string (Pv.mk (Pv.vtxt Q.2.1 Q.2.2.1 Q.2.2.2)), .int .u64 (Pv.pt Q.2.1 0 : Int), .int .u64 (Pv.pt Q.2.1 1 : Int), .int .u64 (Pv.pt Q.2.1 2 : Int)] (fun _ => True) (fun k => k = bc) rfl rfl ?aP ?aK (fun _ _ => trivial) ?aO ?aB ?aS ?aL ?_; (case aP => exact k28_mkM _ _ _ (verData Q) (Kd.R_lower (Kd.R_of_own (h1 := fun _ => rfl) (Kd.own_of_R P3.out) (fun k hk => by simpa [Value.ownBlock] using hk.symm)) B2.out.size)); (case aK => exact fun k hk => ⟨trivial, by rw [hk]; intro h; simp [Value.ownBlock] at h; exact Z3.out h⟩); (case aB => exact B3.out); (case aO => exact O3.out); (case aS => exact B3.out.size); (case aL => have := HN.out; have := HL.out; have := HI.out; omega); intro v4 w4 ho hb hgr hat; have S4 : Aside0 (SteadyV w w4 v4 g2 c2 Q (xs ++ [verData Q])) := ⟨⟨ver_grown V3.out hgr (by intro h; simp [Value.ownBlock] at h; exact N2.out.1 h) (by intro h; simp [Value.ownBlock] at h; exact N2.out.2 h), FQ.out, ho, ⟨row_ne_after (by intro h; simp [Value.ownBlock] at h; exact N2.out.1 h) (blk_lt V3.out.1) hat, row_ne_after (by intro h; simp [Value.ownBlock] at h; exact N2.out.2 h) (blk_lt V3.out.2) hat⟩, hb⟩⟩; clear ho hb hgr hat))
      rw [HW.out]
      go_roundw
      case measure => exact HM.out
      case rel => exact ⟨i + 1, Q, xs ++ [verData Q], g2, c2, HI.out, rfl, rfl, S4, ⟨by rw [List.append_assoc]; exact HX.out⟩, ⟨by rw [List.length_append, HN.out]; rfl⟩⟩
     have t2 : (d == 2) = false := beq_eq_false_iff_ne.2 hd2
     by_cases hd3 : d = 3
     ·
      subst hd3
      by_cases hz : s.size = 0
      ·
       have hnil : Pv.Lb s = [] := List.length_eq_zero_iff.1 (by have e : s.size = (Pv.Lb s).length := Go.Proofs.YtomoefldmgfaoaaDoor.Txt.size_len s; omega)
       replace hQ : Q = q := by rw [hQ, hnil]; rfl
       have HZ := aM_ hz
       clear hz hnil
       have HQ := aM_ hQ
       clear hQ
       go_wp2_with (first
        | (go_at_call 46; (with_reducible refine (Pv.withPreN_calls g s HZ.out _).mono ?_); rintro e w2 ⟨rfl, hw2⟩; have V2 : Aside0 (Pv.IsVer w2 g c Q.2.1 Q.1 (Pv.mk Q.2.2.1) (Pv.mk Q.2.2.2)) := ⟨by rw [HQ.out, hw2]; exact SV_.out.below (bB_ (Below.refl _ _) _)⟩; have B2 : Aside0 (Below w.heap.size w w2) := ⟨by rw [hw2]; exact bB_ SB.out _⟩; have O2 : Aside0 (Kd.R k28 28 w2 w.heap.size (fun _ => True) (.slice (some ⟨gO, 0, none⟩) xs.length cO) xs) := ⟨by rw [hw2]; exact kA_ SO.out _⟩; have N2 : Aside0 (g ≠ gO ∧ c ≠ gO) := ⟨SN1.out, SN2.out⟩; have Z2 : Aside0 (gO < w2.heap.size) := ⟨by rw [hw2]; have := LO.out; simp; omega⟩; clear hw2)
        | (go_at_call 29; (with_reducible refine (HV.out Q FQ.out _ _ _ V2.out (HG.out.below B2.out)).mono ?_); rintro e w3 ⟨v0, rfl, hr, hb⟩; obtain ⟨bc, cp, e9, h9, -, -⟩ := Kd.R_form hr (by rw [List.length_map]; have := FQ1.out; omega); rw [List.length_map] at e9; subst e9; have B3 := aM_ (below_step B2.out hb); have V3 := aM_ (V2.out.below hb); have O3 := aM_ (Kd.R_below O2.out hb); have P3 := aM_ hr; have Z3 : Aside0 (bc ≠ gO) := ⟨by have := Z2.out; (try simp at h9); omega⟩; clear hb hr h9)
        | ((with_reducible refine gate_builtin (b := .append) (xs := #[.tmp 77, .tmp 80]) rfl ?_); at_builtin; refine Kd.R_append k28 (w0 := w) w.heap.size rfl (.tmp 77) (.tmp 80) 42 28 Pv.verNil 104 rfl Tryd.underlying42 verData_info rfl (by decide) (by omega) (.slice (some ⟨gO, 0, none⟩) xs.length cO) xs (verData Q) [.bool true, .slice (some ⟨bc, 0, none⟩) Q.2.1.length cp, .string (Pv.mk Q.2.2.1), .string (Pv.mk Q.2.2.2), .string (Pv.mk (Pv.vtxt Q.2.1 Q.2.2.1 Q.2.2.2)), .int .u64 (Pv.pt Q.2.1 0 : Int), .int .u64 (Pv.pt Q.2.1 1 : Int), .int .u64 (Pv.pt Q.2.1 2 : Int)] (fun _ => True) (fun k => k = bc) rfl rfl ?aP ?aK (fun _ _ => trivial) ?aO ?aB ?aS ?aL ?_; (case aP => exact k28_mkM _ _ _ (verData Q) (Kd.R_lower (Kd.R_of_own (h1 := fun _ => rfl) (Kd.own_of_R P3.out) (fun k hk => by simpa [Value.ownBlock] using hk.symm)) B2.out.size)); (case aK => exact fun k hk => ⟨trivial, by rw [hk]; intro h; simp [Value.ownBlock] at h; exact Z3.out h⟩); (case aB => exact B3.out); (case aO => exact O3.out); (case aS => exact B3.out.size); (case aL => have := HN.out; have := HL.out; have := HI.out; omega); intro v4 w4 ho hb hgr hat; have S4 : Aside0 (SteadyV w w4 v4 g c Q (xs ++ [verData Q])) := ⟨⟨ver_grown V3.out hgr (by intro h; simp [Value.ownBlock] at h; exact N2.out.1 h) (by intro h; simp [Value.ownBlock] at h; exact N2.out.2 h), FQ.out, ho, ⟨row_ne_after (by intro h; simp [Value.ownBlock] at h; exact N2.out.1 h) (blk_lt V3.out.1) hat, row_ne_after (by intro h; simp [Value.ownBlock] at h; exact N2.out.2 h) (blk_lt V3.out.2) hat⟩, hb⟩⟩; clear ho hb hgr hat))
       rw [HW.out]
       go_roundw
       case measure => exact HM.out
       case rel => exact ⟨i + 1, Q, xs ++ [verData Q], g, c, HI.out, rfl, rfl, S4, ⟨by rw [List.append_assoc]; exact HX.out⟩, ⟨by rw [List.length_append, HN.out]; rfl⟩⟩
      ·
       have hnil : Pv.Lb s ≠ [] := fun h => hz (by have e : s.size = (Pv.Lb s).length := Go.Proofs.YtomoefldmgfaoaaDoor.Txt.size_len s; rw [e, h]; rfl)
       replace hQ : Q = (q.1, [Pv.pt q.2.1 0, Pv.pt q.2.1 1, Pv.pt q.2.1 2], Pv.Lb s, q.2.2.2) := by rw [hQ]; unfold Pv.stepV; rw [if_neg (by decide), if_neg (by decide), if_neg (by decide), if_pos rfl, if_neg hnil]
       have HZ := aM_ hz
       clear hz hnil
       have HQ := aM_ hQ
       clear hQ
       go_wp2_with (first
        | (go_at_call 46; (with_reducible refine (Pv.withPreY_calls g c q.2.1 q.1 _ _ SF1.out s HZ.out _ (SV_.out.below (bB_ (Below.refl _ _) _))).mono ?_); rintro e w2 ⟨⟨g2, c2, rfl, hv2, h5, h6⟩, hb⟩; have B2 := aM_ (below_step (bB_ SB.out _) hb); have V2 : Aside0 (Pv.IsVer w2 g2 c2 Q.2.1 Q.1 (Pv.mk Q.2.2.1) (Pv.mk Q.2.2.2)) := ⟨by rw [HQ.out]; show Pv.IsVer w2 g2 c2 _ _ (Pv.mk (Pv.Lb s)) _; rw [mk_LbS]; exact hv2⟩; have O2 := aM_ (Kd.R_below (kA_ SO.out _) hb); have N2 : Aside0 (g2 ≠ gO ∧ c2 ≠ gO) := ⟨by have := LO.out; simp at h5 h6; omega, by have := LO.out; simp at h5 h6; omega⟩; have Z2 : Aside0 (gO < w2.heap.size) := ⟨by have := LO.out; have := hb.size; simp at this; omega⟩; clear hb hv2 h5 h6)
        | (go_at_call 29; (with_reducible refine (HV.out Q FQ.out _ _ _ V2.out (HG.out.below B2.out)).mono ?_); rintro e w3 ⟨v0, rfl, hr, hb⟩; obtain ⟨bc, cp, e9, h9, -, -⟩ := Kd.R_form hr (by rw [List.length_map]; have := FQ1.out; omega); rw [List.length_map] at e9; subst e9; have B3 := aM_ (below_step B2.out hb); have V3 := aM_ (V2.out.below hb); have O3 := aM_ (Kd.R_below O2.out hb); have P3 := aM_ hr; have Z3 : Aside0 (bc ≠ gO) := ⟨by have := Z2.out; (try simp at h9); omega⟩; clear hb hr h9)
        | ((with_reducible refine gate_builtin (b := .append) (xs := #[.tmp 77, .tmp 80]) rfl ?_); at_builtin; refine Kd.R_append k28 (w0 := w) w.heap.size rfl (.tmp 77) (.tmp 80) 42 28 Pv.verNil 104 rfl Tryd.underlying42 verData_info rfl (by decide) (by omega) (.slice (some ⟨gO, 0, none⟩) xs.length cO) xs (verData Q) [.bool true, .slice (some ⟨bc, 0, none⟩) Q.2.1.length cp, .string (Pv.mk Q.2.2.1), .string (Pv.mk Q.2.2.2), .string (Pv.mk (Pv.vtxt Q.2.1 Q.2.2.1 Q.2.2.2)), .int .u64 (Pv.pt Q.2.1 0 : Int), .int .u64 (Pv.pt Q.2.1 1 : Int), .int .u64 (Pv.pt Q.2.1 2 : Int)] (fun _ => True) (fun k => k = bc) rfl rfl ?aP ?aK (fun _ _ => trivial) ?aO ?aB ?aS ?aL ?_; (case aP => exact k28_mkM _ _ _ (verData Q) (Kd.R_lower (Kd.R_of_own (h1 := fun _ => rfl) (Kd.own_of_R P3.out) (fun k hk => by simpa [Value.ownBlock] using hk.symm)) B2.out.size)); (case aK => exact fun k hk => ⟨trivial, by rw [hk]; intro h; simp [Value.ownBlock] at h; exact Z3.out h⟩); (case aB => exact B3.out); (case aO => exact O3.out); (case aS => exact B3.out.size); (case aL => have := HN.out; have := HL.out; have := HI.out; omega); intro v4 w4 ho hb hgr hat; have S4 : Aside0 (SteadyV w w4 v4 g2 c2 Q (xs ++ [verData Q])) := ⟨⟨ver_grown V3.out hgr (by intro h; simp [Value.ownBlock] at h; exact N2.out.1 h) (by intro h; simp [Value.ownBlock] at h; exact N2.out.2 h), FQ.out, ho, ⟨row_ne_after (by intro h; simp [Value.ownBlock] at h; exact N2.out.1 h) (blk_lt V3.out.1) hat, row_ne_after (by intro h; simp [Value.ownBlock] at h; exact N2.out.2 h) (blk_lt V3.out.2) hat⟩, hb⟩⟩; clear ho hb hgr hat))
       rw [HW.out]
       go_roundw
       case measure => exact HM.out
       case rel => exact ⟨i + 1, Q, xs ++ [verData Q], g2, c2, HI.out, rfl, rfl, S4, ⟨by rw [List.append_assoc]; exact HX.out⟩, ⟨by rw [List.length_append, HN.out]; rfl⟩⟩
     have t3 : (d == 3) = false := beq_eq_false_iff_ne.2 hd3
     by_cases hd4 : d = 4
     ·
      subst hd4
      have HQ := aM_ hQ
      clear hQ
      go_wp2_with (first
       | (go_at_call 47; (with_reducible refine (Pv.withBuild_calls g c q.2.1 q.1 _ _ SF1.out s _ (SV_.out.below (bB_ (Below.refl _ _) _))).mono ?_); rintro e w2 ⟨⟨g2, c2, rfl, hv2, h5, h6⟩, hb⟩; have B2 := aM_ (below_step (bB_ SB.out _) hb); have V2 : Aside0 (Pv.IsVer w2 g2 c2 Q.2.1 Q.1 (Pv.mk Q.2.2.1) (Pv.mk Q.2.2.2)) := ⟨by rw [HQ.out]; rw [show Pv.stepV q 4 u off (Pv.Lb s) = (q.1, [Pv.pt q.2.1 0, Pv.pt q.2.1 1, Pv.pt q.2.1 2], q.2.2.1, Pv.Lb s) from rfl]; show Pv.IsVer w2 g2 c2 _ _ _ (Pv.mk (Pv.Lb s)); rw [mk_LbS]; exact hv2⟩; have O2 := aM_ (Kd.R_below (kA_ SO.out _) hb); have N2 : Aside0 (g2 ≠ gO ∧ c2 ≠ gO) := ⟨by have := LO.out; simp at h5 h6; omega, by have := LO.out; simp at h5 h6; omega⟩; have Z2 : Aside0 (gO < w2.heap.size) := ⟨by have := LO.out; have := hb.size; simp at this; omega⟩; clear hb hv2 h5 h6)
       | (go_at_call 29; (with_reducible refine (HV.out Q FQ.out _ _ _ V2.out (HG.out.below B2.out)).mono ?_); rintro e w3 ⟨v0, rfl, hr, hb⟩; obtain ⟨bc, cp, e9, h9, -, -⟩ := Kd.R_form hr (by rw [List.length_map]; have := FQ1.out; omega); rw [List.length_map] at e9; subst e9; have B3 := aM_ (below_step B2.out hb); have V3 := aM_ (V2.out.below hb); have O3 := aM_ (Kd.R_below O2.out hb); have P3 := aM_ hr; have Z3 : Aside0 (bc ≠ gO) := ⟨by have := Z2.out; (try simp at h9); omega⟩; clear hb hr h9)
       | ((with_reducible refine gate_builtin (b := .append) (xs := #[.tmp 77, .tmp 80]) rfl ?_); at_builtin; refine Kd.R_append k28 (w0 := w) w.heap.size rfl (.tmp 77) (.tmp 80) 42 28 Pv.verNil 104 rfl Tryd.underlying42 verData_info rfl (by decide) (by omega) (.slice (some ⟨gO, 0, none⟩) xs.length cO) xs (verData Q) [.bool true, .slice (some ⟨bc, 0, none⟩) Q.2.1.length cp, .string (Pv.mk Q.2.2.1), .string (Pv.mk Q.2.2.2), .string (Pv.mk (Pv.vtxt Q.2.1 Q.2.2.1 Q.2.2.2)), .int .u64 (Pv.pt Q.2.1 0 : Int), .int .u64 (Pv.pt Q.2.1 1 : Int), .int .u64 (Pv.pt Q.2.1 2 : Int)] (fun _ => True) (fun k => k = bc) rfl rfl ?aP ?aK (fun _ _ => trivial) ?aO ?aB ?aS ?aL ?_; (case aP => exact k28_mkM _ _ _ (verData Q) (Kd.R_lower (Kd.R_of_own (h1 := fun _ => rfl) (Kd.own_of_R P3.out) (fun k hk => by simpa [Value.ownBlock] using hk.symm)) B2.out.size)); (case aK => exact fun k hk => ⟨trivial, by rw [hk]; intro h; simp [Value.ownBlock] at h; exact Z3.out h⟩); (case aB => exact B3.out); (case aO => exact O3.out); (case aS => exact B3.out.size); (case aL => have := HN.out; have := HL.out; have := HI.out; omega); intro v4 w4 ho hb hgr hat; have S4 : Aside0 (SteadyV w w4 v4 g2 c2 Q (xs ++ [verData Q])) := ⟨⟨ver_grown V3.out hgr (by intro h; simp [Value.ownBlock] at h; exact N2.out.1 h) (by intro h; simp [Value.ownBlock] at h; exact N2.out.2 h), FQ.out, ho, ⟨row_ne_after (by intro h; simp [Value.ownBlock] at h; exact N2.out.1 h) (blk_lt V3.out.1) hat, row_ne_after (by intro h; simp [Value.ownBlock] at h; exact N2.out.2 h) (blk_lt V3.out.2) hat⟩, hb⟩⟩; clear ho hb hgr hat))
      rw [HW.out]
      go_roundw
      case measure => exact HM.out
      case rel => exact ⟨i + 1, Q, xs ++ [verData Q], g2, c2, HI.out, rfl, rfl, S4, ⟨by rw [List.append_assoc]; exact HX.out⟩, ⟨by rw [List.length_append, HN.out]; rfl⟩⟩
     have t4 : (d == 4) = false := beq_eq_false_iff_ne.2 hd4
     by_cases hd5 : d = 5
     ·
      subst hd5
      have HQ := aM_ hQ
      clear hQ
      go_wp2_with (first
       | (go_at_call 48; (with_reducible refine (Pv.add_calls g c q.2.1 q.1 _ _ SF1.out SF3.out u _ (SV_.out.below (bB_ (Below.refl _ _) _))).mono ?_); rintro e w2 ⟨⟨g2, c2, rfl, hv2, h5, h6⟩, hb⟩; have B2 := aM_ (below_step (bB_ SB.out _) hb); have V2 : Aside0 (Pv.IsVer w2 g2 c2 Q.2.1 Q.1 (Pv.mk Q.2.2.1) (Pv.mk Q.2.2.2)) := ⟨by rw [HQ.out]; exact hv2⟩; have O2 := aM_ (Kd.R_below (kA_ SO.out _) hb); have N2 : Aside0 (g2 ≠ gO ∧ c2 ≠ gO) := ⟨by have := LO.out; simp at h5 h6; omega, by have := LO.out; simp at h5 h6; omega⟩; have Z2 : Aside0 (gO < w2.heap.size) := ⟨by have := LO.out; have := hb.size; simp at this; omega⟩; clear hb hv2 h5 h6)
       | (go_at_call 29; (with_reducible refine (HV.out Q FQ.out _ _ _ V2.out (HG.out.below B2.out)).mono ?_); rintro e w3 ⟨v0, rfl, hr, hb⟩; obtain ⟨bc, cp, e9, h9, -, -⟩ := Kd.R_form hr (by rw [List.length_map]; have := FQ1.out; omega); rw [List.length_map] at e9; subst e9; have B3 := aM_ (below_step B2.out hb); have V3 := aM_ (V2.out.below hb); have O3 := aM_ (Kd.R_below O2.out hb); have P3 := aM_ hr; have Z3 : Aside0 (bc ≠ gO) := ⟨by have := Z2.out; (try simp at h9); omega⟩; clear hb hr h9)
       | ((with_reducible refine gate_builtin (b := .append) (xs := #[.tmp 77, .tmp 80]) rfl ?_); at_builtin; refine Kd.R_append k28 (w0 := w) w.heap.size rfl (.tmp 77) (.tmp 80) 42 28 Pv.verNil 104 rfl Tryd.underlying42 verData_info rfl (by decide) (by omega) (.slice (some ⟨gO, 0, none⟩) xs.length cO) xs (verData Q) [.bool true, .slice (some ⟨bc, 0, none⟩) Q.2.1.length cp, .string (Pv.mk Q.2.2.1), .string (Pv.mk Q.2.2.2), .string (Pv.mk (Pv.vtxt Q.2.1 Q.2.2.1 Q.2.2.2)), .int .u64 (Pv.pt Q.2.1 0 : Int), .int .u64 (Pv.pt Q.2.1 1 : Int), .int .u64 (Pv.pt Q.2.1 2 : Int)] (fun _ => True) (fun k => k = bc) rfl rfl ?aP ?aK (fun _ _ => trivial) ?aO ?aB ?aS ?aL ?_; (case aP => exact k28_mkM _ _ _ (verData Q) (Kd.R_lower (Kd.R_of_own (h1 := fun _ => rfl) (Kd.own_of_R P3.out) (fun k hk => by simpa [Value.ownBlock] using hk.symm)) B2.out.size)); (case aK => exact fun k hk => ⟨trivial, by rw [hk]; intro h; simp [Value.ownBlock] at h; exact Z3.out h⟩); (case aB => exact B3.out); (case aO => exact O3.out); (case aS => exact B3.out.size); (case aL => have := HN.out; have := HL.out; have := HI.out; omega); intro v4 w4 ho hb hgr hat; have S4 : Aside0 (SteadyV w w4 v4 g2 c2 Q (xs ++ [verData Q])) := ⟨⟨ver_grown V3.out hgr (by intro h; simp [Value.ownBlock] at h; exact N2.out.1 h) (by intro h; simp [Value.ownBlock] at h; exact N2.out.2 h), FQ.out, ho, ⟨row_ne_after (by intro h; simp [Value.ownBlock] at h; exact N2.out.1 h) (blk_lt V3.out.1) hat, row_ne_after (by intro h; simp [Value.ownBlock] at h; exact N2.out.2 h) (blk_lt V3.out.2) hat⟩, hb⟩⟩; clear ho hb hgr hat))
      rw [HW.out]
      go_roundw
      case measure => exact HM.out
      case rel => exact ⟨i + 1, Q, xs ++ [verData Q], g2, c2, HI.out, rfl, rfl, S4, ⟨by rw [List.append_assoc]; exact HX.out⟩, ⟨by rw [List.length_append, HN.out]; rfl⟩⟩
     have t5 : (d == 5) = false := beq_eq_false_iff_ne.2 hd5
     by_cases hd6 : d = 6
     ·
      subst hd6
      have HQ := aM_ hQ
      clear hQ
      go_wp2_with (first
       | (go_at_call 49; (with_reducible refine (Pv.sub_calls g c q.2.1 q.1 _ _ SF1.out SF3.out u _ (SV_.out.below (bB_ (Below.refl _ _) _))).mono ?_); rintro e w2 ⟨⟨g2, c2, rfl, hv2, h5, h6⟩, hb⟩; have B2 := aM_ (below_step (bB_ SB.out _) hb); have V2 : Aside0 (Pv.IsVer w2 g2 c2 Q.2.1 Q.1 (Pv.mk Q.2.2.1) (Pv.mk Q.2.2.2)) := ⟨by rw [HQ.out]; exact hv2⟩; have O2 := aM_ (Kd.R_below (kA_ SO.out _) hb); have N2 : Aside0 (g2 ≠ gO ∧ c2 ≠ gO) := ⟨by have := LO.out; simp at h5 h6; omega, by have := LO.out; simp at h5 h6; omega⟩; have Z2 : Aside0 (gO < w2.heap.size) := ⟨by have := LO.out; have := hb.size; simp at this; omega⟩; clear hb hv2 h5 h6)
       | (go_at_call 29; (with_reducible refine (HV.out Q FQ.out _ _ _ V2.out (HG.out.below B2.out)).mono ?_); rintro e w3 ⟨v0, rfl, hr, hb⟩; obtain ⟨bc, cp, e9, h9, -, -⟩ := Kd.R_form hr (by rw [List.length_map]; have := FQ1.out; omega); rw [List.length_map] at e9; subst e9; have B3 := aM_ (below_step B2.out hb); have V3 := aM_ (V2.out.below hb); have O3 := aM_ (Kd.R_below O2.out hb); have P3 := aM_ hr; have Z3 : Aside0 (bc ≠ gO) := ⟨by have := Z2.out; (try simp at h9); omega⟩; clear hb hr h9)
       | ((with_reducible refine gate_builtin (b := .append) (xs := #[.tmp 77, .tmp 80]) rfl ?_); at_builtin; refine Kd.R_append k28 (w0 := w) w.heap.size rfl (.tmp 77) (.tmp 80) 42 28 Pv.verNil 104 rfl Tryd.underlying42 verData_info rfl (by decide) (by omega) (.slice (some ⟨gO, 0, none⟩) xs.length cO) xs (verData Q) [.bool true, .slice (some ⟨bc, 0, none⟩) Q.2.1.length cp, .string (Pv.mk Q.2.2.1), .string (Pv.mk Q.2.2.2), .string (Pv.mk (Pv.vtxt Q.2.1 Q.2.2.1 Q.2.2.2)), .int .u64 (Pv.pt Q.2.1 0 : Int), .int .u64 (Pv.pt Q.2.1 1 : Int), .int .u64 (Pv.pt Q.2.1 2 : Int)] (fun _ => True) (fun k => k = bc) rfl rfl ?aP ?aK (fun _ _ => trivial) ?aO ?aB ?aS ?aL ?_; (case aP => exact k28_mkM _ _ _ (verData Q) (Kd.R_lower (Kd.R_of_own (h1 := fun _ => rfl) (Kd.own_of_R P3.out) (fun k hk => by simpa [Value.ownBlock] using hk.symm)) B2.out.size)); (case aK => exact fun k hk => ⟨trivial, by rw [hk]; intro h; simp [Value.ownBlock] at h; exact Z3.out h⟩); (case aB => exact B3.out); (case aO => exact O3.out); (case aS => exact B3.out.size); (case aL => have := HN.out; have := HL.out; have := HI.out; omega); intro v4 w4 ho hb hgr hat; have S4 : Aside0 (SteadyV w w4 v4 g2 c2 Q (xs ++ [verData Q])) := ⟨⟨ver_grown V3.out hgr (by intro h; simp [Value.ownBlock] at h; exact N2.out.1 h) (by intro h; simp [Value.ownBlock] at h; exact N2.out.2 h), FQ.out, ho, ⟨row_ne_after (by intro h; simp [Value.ownBlock] at h; exact N2.out.1 h) (blk_lt V3.out.1) hat, row_ne_after (by intro h; simp [Value.ownBlock] at h; exact N2.out.2 h) (blk_lt V3.out.2) hat⟩, hb⟩⟩; clear ho hb hgr hat))
      rw [HW.out]
      go_roundw
      case measure => exact HM.out
      case rel => exact ⟨i + 1, Q, xs ++ [verData Q], g2, c2, HI.out, rfl, rfl, S4, ⟨by rw [List.append_assoc]; exact HX.out⟩, ⟨by rw [List.length_append, HN.out]; rfl⟩⟩
     have t6 : (d == 6) = false := beq_eq_false_iff_ne.2 hd6
     replace hQ : Q = (false, [Pv.pt q.2.1 0, Pv.offM (Pv.pt q.2.1 1) off], [], []) := by rw [hQ]; unfold Pv.stepV; rw [if_neg hd0, if_neg hd1, if_neg hd2, if_neg hd3, if_neg hd4, if_neg hd5, if_neg hd6]
     clear hd0 hd1 hd2 hd3 hd4 hd5 hd6
     have HQ := aM_ hQ
     clear hQ
     go_wp2_with (first
      | (go_at_call 50; (with_reducible refine (Pv.offset_calls g c q.2.1 q.1 _ _ SF1.out SF3.out off HO0.out HO1.out _ (SV_.out.below (bB_ (Below.refl _ _) _))).mono ?_); rintro e w2 ⟨⟨g2, c2, rfl, hv2, h5, h6⟩, hb⟩; have B2 := aM_ (below_step (bB_ SB.out _) hb); have V2 : Aside0 (Pv.IsVer w2 g2 c2 Q.2.1 Q.1 (Pv.mk Q.2.2.1) (Pv.mk Q.2.2.2)) := ⟨by rw [HQ.out]; exact hv2⟩; have O2 := aM_ (Kd.R_below (kA_ SO.out _) hb); have N2 : Aside0 (g2 ≠ gO ∧ c2 ≠ gO) := ⟨by have := LO.out; simp at h5 h6; omega, by have := LO.out; simp at h5 h6; omega⟩; have Z2 : Aside0 (gO < w2.heap.size) := ⟨by have := LO.out; have := hb.size; simp at this; omega⟩; clear hb hv2 h5 h6)
      | (go_at_call 29; (with_reducible refine (HV.out Q FQ.out _ _ _ V2.out (HG.out.below B2.out)).mono ?_); rintro e w3 ⟨v0, rfl, hr, hb⟩; obtain ⟨bc, cp, e9, h9, -, -⟩ := Kd.R_form hr (by rw [List.length_map]; have := FQ1.out; omega); rw [List.length_map] at e9; subst e9; have B3 := aM_ (below_step B2.out hb); have V3 := aM_ (V2.out.below hb); have O3 := aM_ (Kd.R_below O2.out hb); have P3 := aM_ hr; have Z3 : Aside0 (bc ≠ gO) := ⟨by have := Z2.out; (try simp at h9); omega⟩; clear hb hr h9)
      | ((with_reducible refine gate_builtin (b := .append) (xs := #[.tmp 77, .tmp 80]) rfl ?_); at_builtin; refine Kd.R_append k28 (w0 := w) w.heap.size rfl (.tmp 77) (.tmp 80) 42 28 Pv.verNil 104 rfl Tryd.underlying42 verData_info rfl (by decide) (by omega) (.slice (some ⟨gO, 0, none⟩) xs.length cO) xs (verData Q) [.bool true, .slice (some ⟨bc, 0, none⟩) Q.2.1.length cp, .string (Pv.mk Q.2.2.1), .string (Pv.mk Q.2.2.2), .string (Pv.mk (Pv.vtxt Q.2.1 Q.2.2.1 Q.2.2.2)), .int .u64 (Pv.pt Q.2.1 0 : Int), .int .u64 (Pv.pt Q.2.1 1 : Int), .int .u64 (Pv.pt Q.2.1 2 : Int)] (fun _ => True) (fun k => k = bc) rfl rfl ?aP ?aK (fun _ _ => trivial) ?aO ?aB ?aS ?aL ?_; (case aP => exact k28_mkM _ _ _ (verData Q) (Kd.R_lower (Kd.R_of_own (h1 := fun _ => rfl) (Kd.own_of_R P3.out) (fun k hk => by simpa [Value.ownBlock] using hk.symm)) B2.out.size)); (case aK => exact fun k hk => ⟨trivial, by rw [hk]; intro h; simp [Value.ownBlock] at h; exact Z3.out h⟩); (case aB => exact B3.out); (case aO => exact O3.out); (case aS => exact B3.out.size); (case aL => have := HN.out; have := HL.out; have := HI.out; omega); intro v4 w4 ho hb hgr hat; have S4 : Aside0 (SteadyV w w4 v4 g2 c2 Q (xs ++ [verData Q])) := ⟨⟨ver_grown V3.out hgr (by intro h; simp [Value.ownBlock] at h; exact N2.out.1 h) (by intro h; simp [Value.ownBlock] at h; exact N2.out.2 h), FQ.out, ho, ⟨row_ne_after (by intro h; simp [Value.ownBlock] at h; exact N2.out.1 h) (blk_lt V3.out.1) hat, row_ne_after (by intro h; simp [Value.ownBlock] at h; exact N2.out.2 h) (blk_lt V3.out.2) hat⟩, hb⟩⟩; clear ho hb hgr hat))
     rw [HW.out]
     go_roundw
     case measure => exact HM.out
     case rel => exact ⟨i + 1, Q, xs ++ [verData Q], g2, c2, HI.out, rfl, rfl, S4, ⟨by rw [List.append_assoc]; exact HX.out⟩, ⟨by rw [List.length_append, HN.out]; rfl⟩⟩
    ·
     have p : ((i : Int) < (l2.length : Int)) = False := eq_false (by omega)
     have p' : decide ((i : Int) < (l2.length : Int)) = false := decide_eq_false (by omega)
     have e : l2.drop i = [] := List.drop_eq_nil_of_le (by omega)
     have HX2 := HX.out
     rw [e, stepsV, List.map_nil, List.append_nil] at HX2
     have HE := aM_ HX2
     clear HX2 HX HN e hlt hi
     go_wp2
     go_ret
     exact ⟨_, rfl, by rw [← HE.out]; exact (And.left (And.right (And.right S.out))), (And.right (And.right (And.right (And.right S.out))))⟩
 ·
  rw [if_neg hs] at h; cases h
-- NOT PRINTED: function 19 (spec_Version_Stepped)

-- NOT PRINTED: function 6 (laws_FnVersionSteps)

end Go.Proofs.YtomoefldmgfaoaaDoor.PFnVersionSteps
