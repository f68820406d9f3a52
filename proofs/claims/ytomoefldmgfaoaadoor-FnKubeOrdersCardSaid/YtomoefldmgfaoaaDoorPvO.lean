/- Versions: the order of two; the fixed calls. -/
import Derived.Test.YtomoefldmgfaoaaDoorPvK
import Derived.Test.YtomoefldmgfaoaaDoorPvKw
set_option linter.unusedVariables false
set_option linter.unusedSimpArgs false
namespace Go.Proofs.YtomoefldmgfaoaaDoor.Pv
open Go Go.RowKit Go.Proofs.YtomoefldmgfaoaaDoor Go.Proofs.YtomoefldmgfaoaaDoorW.PrintWords Go.Proofs.YtomoefldmgfaoaaDoor.PvH Go.Proofs.YtomoefldmgfaoaaDoor.Txt Go.Proofs.YtomoefldmgfaoaaDoor.Small

theorem res5 {fn : Func} {t u v x y : Tmp} (h : fn.results = #[.tmp t, .tmp u, .tmp v, .tmp x, .tmp y]) (tmps : Array Value) (P : Program) (w : World) :
    (results fn tmps).run P w = .ok (.tuple #[tmps.getD t undef, tmps.getD u undef, tmps.getD v undef, tmps.getD x undef, tmps.getD y undef]) w := by
  simp [results, h]
set_option maxRecDepth 100000 in
theorem atl_calls (ga ca : Nat) (na : List Nat) (sa : Bool) (pa ba : ByteArray) (gb cb : Nat) (nb : List Nat) (sb : Bool) (pb bb : ByteArray) (hs : (sa && sb) = false) (hla : na.length ≤ 1099511627776) (hlb : nb.length ≤ 1099511627776) (w : World) (hA : IsVer w ga ca na sa pa ba) (hB : IsVer w gb cb nb sb pb bb) :
    Calls Tryd.prog 80 #[.pointer (some ⟨ga, 0, none⟩), .pointer (some ⟨gb, 0, none⟩)] w fun e w' => e = .returned (.bool (vcmp na nb != -1)) ∧ Below w.heap.size w w' := by
  have HC := Aside0.mk (fun w hA hB => cmp_calls ga ca na sa pa ba gb cb nb sb pb bb hs hla hlb w hA hB)
  have VA := Aside0.mk hA
  have VB := Aside0.mk hB
  clear hs hla hlb hA hB
  go_enter Tryd.func80, Tryd.ntmps80
  go_wp2_with (go_at_call 87; (with_reducible refine (HC.out _ VA.out VB.out).mono ?_); rintro e w1 ⟨rfl, hb⟩)
  go_ret
  exact ⟨by first | rfl | (simp; done), hb⟩
set_option maxRecDepth 100000 in
theorem less_calls (ga ca : Nat) (na : List Nat) (sa : Bool) (pa ba : ByteArray) (gb cb : Nat) (nb : List Nat) (sb : Bool) (pb bb : ByteArray) (hs : (sa && sb) = false) (hla : na.length ≤ 1099511627776) (hlb : nb.length ≤ 1099511627776) (w : World) (hA : IsVer w ga ca na sa pa ba) (hB : IsVer w gb cb nb sb pb bb) :
    Calls Tryd.prog 73 #[.pointer (some ⟨ga, 0, none⟩), .pointer (some ⟨gb, 0, none⟩)] w fun e w' => e = .returned (.bool (vcmp na nb == -1)) ∧ Below w.heap.size w w' := by
  have HC := Aside0.mk (fun w hA hB => cmp_calls ga ca na sa pa ba gb cb nb sb pb bb hs hla hlb w hA hB)
  have VA := Aside0.mk hA
  have VB := Aside0.mk hB
  clear hs hla hlb hA hB
  go_enter Tryd.func73, Tryd.ntmps73
  go_wp2_with (go_at_call 87; (with_reducible refine (HC.out _ VA.out VB.out).mono ?_); rintro e w1 ⟨rfl, hb⟩)
  go_ret
  exact ⟨by first | rfl | (simp; done), hb⟩
set_option maxRecDepth 100000 in
theorem grt_calls (ga ca : Nat) (na : List Nat) (sa : Bool) (pa ba : ByteArray) (gb cb : Nat) (nb : List Nat) (sb : Bool) (pb bb : ByteArray) (hs : (sa && sb) = false) (hla : na.length ≤ 1099511627776) (hlb : nb.length ≤ 1099511627776) (w : World) (hA : IsVer w ga ca na sa pa ba) (hB : IsVer w gb cb nb sb pb bb) :
    Calls Tryd.prog 81 #[.pointer (some ⟨ga, 0, none⟩), .pointer (some ⟨gb, 0, none⟩)] w fun e w' => e = .returned (.bool (vcmp na nb == 1)) ∧ Below w.heap.size w w' := by
  have HC := Aside0.mk (fun w hA hB => cmp_calls ga ca na sa pa ba gb cb nb sb pb bb hs hla hlb w hA hB)
  have VA := Aside0.mk hA
  have VB := Aside0.mk hB
  clear hs hla hlb hA hB
  go_enter Tryd.func81, Tryd.ntmps81
  go_wp2_with (go_at_call 87; (with_reducible refine (HC.out _ VA.out VB.out).mono ?_); rintro e w1 ⟨rfl, hb⟩)
  go_ret
  exact ⟨by first | rfl | (simp; done), hb⟩
set_option maxRecDepth 100000 in
theorem eqt_calls (ga ca : Nat) (na : List Nat) (sa : Bool) (pa ba : ByteArray) (gb cb : Nat) (nb : List Nat) (sb : Bool) (pb bb : ByteArray) (hs : (sa && sb) = false) (hla : na.length ≤ 1099511627776) (hlb : nb.length ≤ 1099511627776) (w : World) (hA : IsVer w ga ca na sa pa ba) (hB : IsVer w gb cb nb sb pb bb) :
    Calls Tryd.prog 82 #[.pointer (some ⟨ga, 0, none⟩), .pointer (some ⟨gb, 0, none⟩)] w fun e w' => e = .returned (.bool (vcmp na nb == 0)) ∧ Below w.heap.size w w' := by
  have HC := Aside0.mk (fun w hA hB => cmp_calls ga ca na sa pa ba gb cb nb sb pb bb hs hla hlb w hA hB)
  have VA := Aside0.mk hA
  have VB := Aside0.mk hB
  clear hs hla hlb hA hB
  go_enter Tryd.func82, Tryd.ntmps82
  go_wp2_with (go_at_call 87; (with_reducible refine (HC.out _ VA.out VB.out).mono ?_); rintro e w1 ⟨rfl, hb⟩)
  go_ret
  exact ⟨by first | rfl | (simp; done), hb⟩
set_option maxHeartbeats 6400000 in
set_option maxRecDepth 100000 in
theorem vorder_calls (ka : Int) (a : ByteArray) (kb : Int) (b : ByteArray) (qa qb : Pd) (hqa : pkind ka (Lb a) = some qa) (hqb : pkind kb (Lb b) = some qb) (hs : (qa.1 && qb.1) = false) (ha : a.size ≤ 549755813888) (hb : b.size ≤ 549755813888) (w : World) (hg : Good w) :
    Calls Tryd.prog 58 #[.int .i64 ka, .string a, .int .i64 kb, .string b] w fun e w' => e = .returned (.tuple #[.bool (vcmp qa.2.1 qb.2.1 != -1), .bool (vcmp qa.2.1 qb.2.1 == -1), .bool (vcmp qa.2.1 qb.2.1 == 1), .bool (vcmp qa.2.1 qb.2.1 == 0), .bool true]) ∧ Below w.heap.size w w' := by
  have hla : (Lb a).length ≤ 549755813888 := by have : a.size = (Lb a).length := size_len a; omega
  have hlb : (Lb b).length ≤ 549755813888 := by have : b.size = (Lb b).length := size_len b; omega
  have fa := (pkind_fit hqa).2.1
  have fb := (pkind_fit hqb).2.1
  have la : qa.2.1.length ≤ 1099511627776 := by omega
  have lb : qb.2.1.length ≤ 1099511627776 := by omega
  have PA := Aside0.mk (fun w hg => parsed_calls ka a (by omega) w hg)
  have PB := Aside0.mk (fun w hg => parsed_calls kb b (by omega) w hg)
  rw [hqa] at PA
  rw [hqb] at PB
  have HG := Aside0.mk hg
  have H1 := Aside0.mk (fun ga ca pa ba gb cb pb bb w hA hB => atl_calls ga ca qa.2.1 qa.1 pa ba gb cb qb.2.1 qb.1 pb bb hs la lb w hA hB)
  have H2 := Aside0.mk (fun ga ca pa ba gb cb pb bb w hA hB => less_calls ga ca qa.2.1 qa.1 pa ba gb cb qb.2.1 qb.1 pb bb hs la lb w hA hB)
  have H3 := Aside0.mk (fun ga ca pa ba gb cb pb bb w hA hB => grt_calls ga ca qa.2.1 qa.1 pa ba gb cb qb.2.1 qb.1 pb bb hs la lb w hA hB)
  have H4 := Aside0.mk (fun ga ca pa ba gb cb pb bb w hA hB => eqt_calls ga ca qa.2.1 qa.1 pa ba gb cb qb.2.1 qb.1 pb bb hs la lb w hA hB)
  clear hqa hqb ha hb hg fa fb hla hlb hs la lb
  go_enter Tryd.func58, Tryd.ntmps58
  go_wp2_with (first
    | (go_at_call 36; (with_reducible refine (PA.out _ HG.out).mono ?_); rintro e w1 ⟨⟨ga, ca, rfl, hv, -, -⟩, hb⟩; have VA := Aside0.mk hv; have B := Aside0.mk hb; clear hv hb)
    | (go_at_call 36; (with_reducible refine (PB.out _ (HG.out.below B.out)).mono ?_); rintro e w2 ⟨⟨gb, cb, rfl, hv, -, -⟩, hb⟩; have VB := Aside0.mk hv; have VA := Aside0.mk (VA.out.below hb); have B := Aside0.mk (below_step B.out hb); clear hv hb)
    | (go_at_call 80; (with_reducible refine (H1.out _ _ _ _ _ _ _ _ _ VA.out VB.out).mono ?_); rintro e w3 ⟨rfl, hb⟩; have VA := Aside0.mk (VA.out.below hb); have VB := Aside0.mk (VB.out.below hb); have B := Aside0.mk (below_step B.out hb); clear hb)
    | (go_at_call 73; (with_reducible refine (H2.out _ _ _ _ _ _ _ _ _ VA.out VB.out).mono ?_); rintro e w3 ⟨rfl, hb⟩; have VA := Aside0.mk (VA.out.below hb); have VB := Aside0.mk (VB.out.below hb); have B := Aside0.mk (below_step B.out hb); clear hb)
    | (go_at_call 81; (with_reducible refine (H3.out _ _ _ _ _ _ _ _ _ VA.out VB.out).mono ?_); rintro e w3 ⟨rfl, hb⟩; have VA := Aside0.mk (VA.out.below hb); have VB := Aside0.mk (VB.out.below hb); have B := Aside0.mk (below_step B.out hb); clear hb)
    | (go_at_call 82; (with_reducible refine (H4.out _ _ _ _ _ _ _ _ _ VA.out VB.out).mono ?_); rintro e w3 ⟨rfl, hb⟩; have VA := Aside0.mk (VA.out.below hb); have VB := Aside0.mk (VB.out.below hb); have B := Aside0.mk (below_step B.out hb); clear hb))
  refine bodyPost_ret (res5 rfl _ _ _) rfl ⟨rfl, B.out⟩
abbrev t123 : ByteArray := ⟨#[49, 46, 50, 46, 51]⟩
abbrev t13 : ByteArray := ⟨#[49, 46, 51]⟩
abbrev t12 : ByteArray := ⟨#[49, 46, 50]⟩
abbrev tv2 : ByteArray := ⟨#[118, 50]⟩
abbrev tv1 : ByteArray := ⟨#[118, 49]⟩
theorem p123 : pkind 2 (Lb t123) = some (true, [1, 2, 3], [], []) := by decide
theorem p13 : pkind 1 (Lb t13) = some (false, [1, 3], [], []) := by decide
theorem p12 : pkind 1 (Lb t12) = some (false, [1, 2], [], []) := by decide
theorem k2 : kube (Lb tv2) = some (2, [50], []) := by decide
theorem k1 : kube (Lb tv1) = some (2, [49], []) := by decide
theorem kc21 : kcmp (Lb tv2) (Lb tv1) = 1 := by decide
theorem ask_of {l : Bs} {q : Nat × Bs × Bs} (h : kube l = some q) (h1 : q.2.1.length ≤ 18) (h2 : q.2.2.length ≤ 18) : KAsk l := fun x hx => by
  rw [h] at hx
  injection hx with hx
  rw [← hx]; exact ⟨h1, h2⟩
set_option maxHeartbeats 6400000 in
set_option maxRecDepth 100000 in
theorem awake_calls (w : World) (hg : Good w) : Calls Tryd.prog 27 #[] w fun e w' => e = .returned (.bool true) ∧ Below w.heap.size w w' := by
  have mixed : Tryd.prog.follows .mixedOrders = true := by kernel_rfl
  have hu2 := Tryd.underlying28
  have HG := Aside0.mk hg
  have HP := Aside0.mk (fun w hg => vparse_calls 2 t123 (by decide) w hg)
  rw [p123] at HP
  have HO := Aside0.mk (fun w hg => vorder_calls 1 t13 1 t12 _ _ p13 p12 rfl (by decide) (by decide) w hg)
  have HK := Aside0.mk (fun w => kc_calls tv2 tv1 (by decide) (by decide) (ask_of k2 (by decide) (by decide)) (ask_of k1 (by decide) (by decide)) w)
  rw [kc21] at HK
  clear hg
  go_enter Tryd.func27, Tryd.ntmps27
  go_wp2_with (first
    | (go_at_call 14; (with_reducible refine (HP.out _ HG.out).mono ?_); rintro e w1 ⟨⟨v0, rfl, hr⟩, hb⟩; obtain ⟨bc, cp, e9, -, -, -⟩ := Kd.R_form hr (by simp); subst e9; have B := Aside0.mk hb; clear hb hr)
    | (go_at_call 58; (with_reducible refine (HO.out _ (HG.out.below (below_alloc B.out _))).mono ?_); rintro e w2 ⟨rfl, hb⟩; have R := Aside0.mk (blk_below (blk_new w1 _) hb); have c0 : w2.cell? ⟨w1.heap.size, 0, none⟩ = some (.bool true) := blk_cell R.out 0; have c5 : w2.cell? ⟨w1.heap.size, 5, none⟩ = some (.int .u64 1) := blk_cell R.out 5; have c6 : w2.cell? ⟨w1.heap.size, 6, none⟩ = some (.int .u64 2) := blk_cell R.out 6; have B := Aside0.mk (below_step (below_alloc B.out _) hb); clear hb)
    | (go_at_call 26; (with_reducible refine (HK.out _).mono ?_); rintro e w3 ⟨rfl, hb⟩; have B := Aside0.mk (below_step B.out hb); clear hb))
  go_ret
  exact ⟨by first | rfl | (simp; done), B.out⟩
def kaskB (l : Bs) : Bool := match kube l with
  | none => true
  | some q => decide (q.2.1.length ≤ 18) && decide (q.2.2.length ≤ 18)
theorem kask_of {l : Bs} (h : kaskB l = true) : KAsk l := fun q hq => by
  unfold kaskB at h
  rw [hq] at h
  simpa using h
end Go.Proofs.YtomoefldmgfaoaaDoor.Pv
