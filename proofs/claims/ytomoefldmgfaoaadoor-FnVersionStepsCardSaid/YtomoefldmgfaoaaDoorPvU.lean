/- Versions: the ways of parsing one. -/
import Derived.Test.YtomoefldmgfaoaaDoorPvT
set_option linter.unusedVariables false
set_option linter.unusedSimpArgs false
namespace Go.Proofs.YtomoefldmgfaoaaDoor.Pv
open Go Go.RowKit Go.Proofs.YtomoefldmgfaoaaDoor Go.Proofs.YtomoefldmgfaoaaDoorW.PrintWords Go.Proofs.YtomoefldmgfaoaaDoor.PvH Go.Proofs.YtomoefldmgfaoaaDoor.Txt Go.Proofs.YtomoefldmgfaoaaDoor.Small

abbrev Pd := Bool × List Nat × Bs × Bs
def pgen (l : Bs) : Option Pd := (pparse false l).map fun q => (false, q.1, q.2.1, q.2.2)
def psem (l : Bs) : Option Pd := (pparse true l).map fun q => (true, q.1, q.2.1, q.2.2)
def pany (l : Bs) : Option Pd := match psem l with
  | some q => some q
  | none => pgen l
def ptwo (l : Bs) : Option Pd := (pgen l).map fun q => (false, [pt q.2.1 0, pt q.2.1 1], [], [])
/-- What is parsed, by the kind. -/
def pkind (kind : Int) (l : Bs) : Option Pd := if kind = 1 then pgen l else if kind = 2 then psem l else if kind = 3 then ptwo l else pany l
def ToldK (w w' : World) (e : Ending) : Option Pd → Prop
  | none => ∃ T x, e = .returned (.tuple #[.pointer none, .iface T x])
  | some q => ∃ g c, e = .returned (.tuple #[.pointer (some ⟨g, 0, none⟩), .nilIface]) ∧ IsVer w' g c q.2.1 q.1 (mk q.2.2.1) (mk q.2.2.2) ∧ w.heap.size ≤ g ∧ w.heap.size ≤ c
/-- What is parsed fits. -/
def FitP (n : Nat) (q : Pd) : Prop := 2 ≤ q.2.1.length ∧ q.2.1.length ≤ n + 2 ∧ (∀ m ∈ q.2.1, m < 18446744073709551616) ∧ q.2.2.1.length ≤ n ∧ q.2.2.2.length ≤ n
theorem extra_len2 {r p b : Bs} (h : extra r = some (p, b)) : b.length ≤ r.length := by
  obtain ⟨bl, -, e, -, -⟩ := extra_asm h
  have e' := congrArg List.length e
  unfold asm at e'
  rw [List.length_append, List.length_append] at e'
  by_cases h0 : b = []
  · rw [h0]; simp
  · rw [if_neg h0, List.length_cons] at e'; omega
theorem fields_rest (l : Bs) : (fieldsOf l).2.length ≤ l.length := by
  obtain ⟨-, h2⟩ := fields_spec l
  have h4 := congrArg List.length h2
  rw [List.length_append] at h4
  have := ahead_len l
  omega
theorem pparse_fit {sem : Bool} {l : Bs} {ns : List Nat} {p b : Bs} (h : pparse sem l = some (ns, p, b)) : p.length ≤ l.length ∧ b.length ≤ l.length := by
  have hr := fields_rest l
  by_cases c1 : (fieldsOf l).1 = []
  · unfold pparse at h; simp only at h; rw [if_pos c1] at h; cases h
  by_cases c2 : 10 ∈ (fieldsOf l).2
  · unfold pparse at h; simp only at h; rw [if_neg c1, if_pos c2] at h; cases h
  rw [pparse_tail c1 c2] at h
  unfold tailP at h
  by_cases c3 : (if sem = true then (fieldsOf l).1.length ≠ 3 else (fieldsOf l).1.length < 2)
  · rw [if_pos c3] at h; cases h
  rw [if_neg c3] at h
  cases hn : nums sem true (fieldsOf l).1 with
  | none => rw [hn] at h; cases h
  | some ns' =>
    rw [hn] at h
    simp only at h
    by_cases c4 : (sem && (fieldsOf l).2 != []) = true
    · rw [if_pos c4] at h
      cases he : extra (fieldsOf l).2 with
      | none => rw [he] at h; cases h
      | some q =>
        obtain ⟨p', b'⟩ := q
        rw [he] at h
        simp only at h
        by_cases c5 : (spl p').all okPre = true
        · rw [if_pos c5] at h
          injection h with h; injection h with _ e2; injection e2 with e2 e3
          rw [← e2, ← e3]
          exact ⟨Nat.le_trans (extra_len he) hr, Nat.le_trans (extra_len2 he) hr⟩
        · rw [if_neg c5] at h; cases h
    · rw [if_neg c4] at h
      injection h with h; injection h with _ e2; injection e2 with e2 e3
      rw [← e2, ← e3]; simp
theorem pgen_fit {l : Bs} {q : Pd} (h : pgen l = some q) : FitP l.length q := by
  unfold pgen at h
  cases hp : pparse false l with
  | none => rw [hp] at h; cases h
  | some r =>
    obtain ⟨ns, p, b⟩ := r
    rw [hp] at h
    injection h with h
    subst h
    obtain ⟨a1, a2, a3, -, -⟩ := pparse_some hp
    obtain ⟨a4, a5⟩ := pparse_fit hp
    exact ⟨a1, by show ns.length ≤ _; omega, a3, a4, a5⟩
theorem psem_fit {l : Bs} {q : Pd} (h : psem l = some q) : FitP l.length q := by
  unfold psem at h
  cases hp : pparse true l with
  | none => rw [hp] at h; cases h
  | some r =>
    obtain ⟨ns, p, b⟩ := r
    rw [hp] at h
    injection h with h
    subst h
    obtain ⟨a1, a2, a3, -, -⟩ := pparse_some hp
    obtain ⟨a4, a5⟩ := pparse_fit hp
    exact ⟨a1, by show ns.length ≤ _; omega, a3, a4, a5⟩
theorem pt_lt {ns : List Nat} (h : ∀ m ∈ ns, m < 18446744073709551616) (k : Nat) : pt ns k < 18446744073709551616 := by
  by_cases hk : k < ns.length
  · rw [pt_at hk]; exact h _ (List.getElem_mem hk)
  · rw [pt_no (by omega)]; omega
theorem pkind_fit {kind : Int} {l : Bs} {q : Pd} (h : pkind kind l = some q) : FitP l.length q := by
  unfold pkind at h
  split at h
  · exact pgen_fit h
  · split at h
    · exact psem_fit h
    · split at h
      · unfold ptwo at h
        cases hp : pgen l with
        | none => rw [hp] at h; cases h
        | some r =>
          rw [hp] at h
          injection h with h
          subst h
          have hf := pgen_fit hp
          refine ⟨Nat.le_refl _, by show 2 ≤ _; omega, ?_, by simp, by simp⟩
          intro m hm
          rcases List.mem_cons.1 hm with rfl | hm
          · exact pt_lt hf.2.2.1 0
          · rcases List.mem_cons.1 hm with rfl | hm
            · exact pt_lt hf.2.2.1 1
            · cases hm
      · unfold pany at h
        cases hp : psem l with
        | none => rw [hp] at h; exact pgen_fit h
        | some r => rw [hp] at h; injection h with h; subst h; exact psem_fit hp
set_option maxHeartbeats 6400000 in
set_option maxRecDepth 100000 in
theorem gen_calls (s : ByteArray) (hs : s.size ≤ 1099511627776) (w : World) (hg : Good w) :
    Calls Tryd.prog 66 #[.string s] w fun e w' => ToldK w w' e (pgen (Lb s)) ∧ Below w.heap.size w w' := by
  have HP := Aside0.mk (fun w hg => parse_calls s false hs w hg)
  have HG := Aside0.mk hg
  clear hs hg
  unfold pgen
  cases h : pparse false (Lb s) with
  | none =>
    have H := Aside0.mk h
    clear h
    go_enter Tryd.func66, Tryd.ntmps66
    go_wp2_with (go_at_call 86; (with_reducible refine (HP.out _ HG.out).mono ?_); rintro e w1 ⟨ht, hb⟩; rw [H.out] at ht; obtain ⟨T, x, rfl⟩ := ht)
    go_ret2
    exact ⟨⟨_, _, rfl⟩, hb⟩
  | some q =>
    have H := Aside0.mk h
    clear h
    go_enter Tryd.func66, Tryd.ntmps66
    go_wp2_with (go_at_call 86; (with_reducible refine (HP.out _ HG.out).mono ?_); rintro e w1 ⟨ht, hb⟩; rw [H.out] at ht; obtain ⟨g, c, rfl, hv, h1, h2⟩ := ht)
    go_ret2
    exact ⟨⟨g, c, rfl, hv, h1, h2⟩, hb⟩
set_option maxHeartbeats 6400000 in
set_option maxRecDepth 100000 in
theorem sem_calls (s : ByteArray) (hs : s.size ≤ 1099511627776) (w : World) (hg : Good w) :
    Calls Tryd.prog 67 #[.string s] w fun e w' => ToldK w w' e (psem (Lb s)) ∧ Below w.heap.size w w' := by
  have HP := Aside0.mk (fun w hg => parse_calls s true hs w hg)
  have HG := Aside0.mk hg
  clear hs hg
  unfold psem
  cases h : pparse true (Lb s) with
  | none =>
    have H := Aside0.mk h
    clear h
    go_enter Tryd.func67, Tryd.ntmps67
    go_wp2_with (go_at_call 86; (with_reducible refine (HP.out _ HG.out).mono ?_); rintro e w1 ⟨ht, hb⟩; rw [H.out] at ht; obtain ⟨T, x, rfl⟩ := ht)
    go_ret2
    exact ⟨⟨_, _, rfl⟩, hb⟩
  | some q =>
    have H := Aside0.mk h
    clear h
    go_enter Tryd.func67, Tryd.ntmps67
    go_wp2_with (go_at_call 86; (with_reducible refine (HP.out _ HG.out).mono ?_); rintro e w1 ⟨ht, hb⟩; rw [H.out] at ht; obtain ⟨g, c, rfl, hv, h1, h2⟩ := ht)
    go_ret2
    exact ⟨⟨g, c, rfl, hv, h1, h2⟩, hb⟩
set_option maxHeartbeats 6400000 in
set_option maxRecDepth 100000 in
theorem mm_calls (a m : Nat) (w : World) : Calls Tryd.prog 30 #[.int .u64 (a : Int), .int .u64 (m : Int)] w fun e w' => ∃ g c, e = .returned (.pointer (some ⟨g, 0, none⟩)) ∧ IsVer w' g c [a, m] false ⟨#[]⟩ ⟨#[]⟩ ∧ w.heap.size ≤ g ∧ w.heap.size ≤ c ∧ Below w.heap.size w w' := by
  have hu1 := Tryd.underlying90
  go_enter Tryd.func30, Tryd.ntmps30
  go_wp2
  go_ret
  refine ⟨w.heap.size + 1, w.heap.size, rfl, ⟨?_, ?_⟩, by omega, Nat.le_refl _, ?_⟩
  · exact new2 w _ _
  · exact blk_alloc (blk_new w _) _
  · repeat (first | exact Below.refl _ _ | apply below_alloc | apply pw_below_drewN | apply below_drew1)
set_option maxHeartbeats 6400000 in
set_option maxRecDepth 100000 in
theorem any_calls (s : ByteArray) (hs : s.size ≤ 1099511627776) (w : World) (hg : Good w) :
    Calls Tryd.prog 69 #[.string s] w fun e w' => ToldK w w' e (pany (Lb s)) ∧ Below w.heap.size w w' := by
  have HP := Aside0.mk (fun w hg => parse_calls s true hs w hg)
  have HQ := Aside0.mk (fun w hg => parse_calls s false hs w hg)
  have HG := Aside0.mk hg
  clear hs hg
  unfold pany psem
  cases h : pparse true (Lb s) with
  | some q =>
    have H1 := Aside0.mk h
    clear h
    simp only [Option.map_some]
    go_enter Tryd.func69, Tryd.ntmps69
    go_wp2_with (go_at_call 86; (with_reducible refine (HP.out _ HG.out).mono ?_); rintro e w1 ⟨ht, hb⟩; rw [H1.out] at ht; obtain ⟨g1, c1, rfl, hv, h1, h2⟩ := ht; have V1 := Aside0.mk hv; have G1 := Aside0.mk (Nat.le_trans (Nat.le_refl _) h1); have C1 := Aside0.mk (Nat.le_trans (Nat.le_refl _) h2); have B1 := Aside0.mk hb; clear hb hv h1 h2)
    go_ret2
    exact ⟨⟨g1, c1, rfl, V1.out, G1.out, C1.out⟩, B1.out⟩
  | none =>
    have H1 := Aside0.mk h
    clear h
    simp only [Option.map_none]
    unfold pgen
    cases h : pparse false (Lb s) with
    | some q =>
      have H2 := Aside0.mk h
      clear h
      simp only [Option.map_some]
      go_enter Tryd.func69, Tryd.ntmps69
      go_wp2_with (first | (go_at_call 86; (with_reducible refine (HP.out _ HG.out).mono ?_); rintro e w1 ⟨ht, hb⟩; rw [H1.out] at ht; obtain ⟨T1, x1, rfl⟩ := ht; have B1 := Aside0.mk hb; clear hb) | (go_at_call 86; (with_reducible refine (HQ.out _ (HG.out.below B1.out)).mono ?_); rintro e w2 ⟨ht, hb⟩; rw [H2.out] at ht; obtain ⟨g2, c2, rfl, hv, h1, h2⟩ := ht; have V2 := Aside0.mk hv; have G2 := Aside0.mk (Nat.le_trans B1.out.size h1); have C2 := Aside0.mk (Nat.le_trans B1.out.size h2); have B2 := Aside0.mk (below_step B1.out hb); clear hb hv h1 h2))
      go_ret2
      exact ⟨⟨g2, c2, rfl, V2.out, G2.out, C2.out⟩, B2.out⟩
    | none =>
      have H2 := Aside0.mk h
      clear h
      go_enter Tryd.func69, Tryd.ntmps69
      go_wp2_with (first | (go_at_call 86; (with_reducible refine (HP.out _ HG.out).mono ?_); rintro e w1 ⟨ht, hb⟩; rw [H1.out] at ht; obtain ⟨T1, x1, rfl⟩ := ht; have B1 := Aside0.mk hb; clear hb) | (go_at_call 86; (with_reducible refine (HQ.out _ (HG.out.below B1.out)).mono ?_); rintro e w2 ⟨ht, hb⟩; rw [H2.out] at ht; obtain ⟨T2, x2, rfl⟩ := ht; have B2 := Aside0.mk (below_step B1.out hb); clear hb))
      go_ret2
      exact ⟨⟨_, _, rfl⟩, B2.out⟩
set_option maxHeartbeats 6400000 in
set_option maxRecDepth 100000 in
theorem two_calls (s : ByteArray) (hs : s.size ≤ 1099511627776) (w : World) (hg : Good w) :
    Calls Tryd.prog 68 #[.string s] w fun e w' => ToldK w w' e (ptwo (Lb s)) ∧ Below w.heap.size w w' := by
  have HP := Aside0.mk (fun w hg => gen_calls s hs w hg)
  have HG := Aside0.mk hg
  clear hs hg
  unfold ptwo
  cases h : pgen (Lb s) with
  | some q =>
    have H1 := Aside0.mk h
    have L1 := Aside0.mk (pgen_fit h).1
    have HM := Aside0.mk (fun w => mm_calls (pt q.2.1 0) (pt q.2.1 1) w)
    clear h
    go_enter Tryd.func68, Tryd.ntmps68
    go_wp2_with (first
      | (go_at_call 66; (with_reducible refine (HP.out _ HG.out).mono ?_); rintro e w1 ⟨ht, hb⟩; rw [H1.out] at ht; obtain ⟨g1, c1, rfl, hv, h1, h2⟩ := ht; have V1 := Aside0.mk hv; have G1 := Aside0.mk (Nat.le_trans (Nat.le_refl _) h1); have C1 := Aside0.mk (Nat.le_trans (Nat.le_refl _) h2); have B1 := Aside0.mk hb; clear hb hv h1 h2)
      | (go_at_call 63; (with_reducible refine (major_calls g1 c1 q.2.1 q.1 _ _ _ V1.out L1.out).mono ?_); rintro e w0 ⟨rfl, rfl⟩)
      | (go_at_call 64; (with_reducible refine (minor_calls g1 c1 q.2.1 q.1 _ _ _ V1.out L1.out).mono ?_); rintro e w0 ⟨rfl, rfl⟩)
      | (go_at_call 30; (with_reducible refine (HM.out _).mono ?_); rintro e w2 ⟨g2, c2, rfl, hv, h1, h2, hb⟩))
    go_ret2
    exact ⟨⟨g2, c2, rfl, hv, Nat.le_trans B1.out.size h1, Nat.le_trans B1.out.size h2⟩, below_step B1.out hb⟩
  | none =>
    have H1 := Aside0.mk h
    clear h
    go_enter Tryd.func68, Tryd.ntmps68
    go_wp2_with (go_at_call 66; (with_reducible refine (HP.out _ HG.out).mono ?_); rintro e w1 ⟨ht, hb⟩; rw [H1.out] at ht; obtain ⟨T1, x1, rfl⟩ := ht; have B1 := Aside0.mk hb; clear hb)
    go_ret2
    exact ⟨⟨_, _, rfl⟩, B1.out⟩
set_option maxHeartbeats 6400000 in
set_option maxRecDepth 100000 in
theorem parsed_calls (kind : Int) (s : ByteArray) (hs : s.size ≤ 1099511627776) (w : World) (hg : Good w) :
    Calls Tryd.prog 36 #[.int .i64 kind, .string s] w fun e w' => ToldK w w' e (pkind kind (Lb s)) ∧ Below w.heap.size w w' := by
  have HG := Aside0.mk hg
  unfold pkind
  by_cases k1 : kind = 1
  · subst k1
    rw [if_pos rfl]
    have HP := Aside0.mk (fun w hg => gen_calls s hs w hg)
    clear hs hg
    cases h : pgen (Lb s) with
    | none =>
      have H1 := Aside0.mk h
      clear h
      go_enter Tryd.func36, Tryd.ntmps36
      go_wp2_with (go_at_call 66; (with_reducible refine (HP.out _ HG.out).mono ?_); rintro e w1 ⟨ht, hb⟩; rw [H1.out] at ht; obtain ⟨T1, x1, rfl⟩ := ht; have B1 := Aside0.mk hb; clear hb)
      go_ret2
      exact ⟨⟨_, _, rfl⟩, B1.out⟩
    | some q =>
      have H1 := Aside0.mk h
      clear h
      go_enter Tryd.func36, Tryd.ntmps36
      go_wp2_with (go_at_call 66; (with_reducible refine (HP.out _ HG.out).mono ?_); rintro e w1 ⟨ht, hb⟩; rw [H1.out] at ht; obtain ⟨g1, c1, rfl, hv, h1, h2⟩ := ht; have V1 := Aside0.mk hv; have G1 := Aside0.mk (Nat.le_trans (Nat.le_refl _) h1); have C1 := Aside0.mk (Nat.le_trans (Nat.le_refl _) h2); have B1 := Aside0.mk hb; clear hb hv h1 h2)
      go_ret2
      exact ⟨⟨g1, c1, rfl, V1.out, G1.out, C1.out⟩, B1.out⟩
  have n1 : (kind == 1) = false := beq_eq_false_iff_ne.2 k1
  have m1 : (kind = 1) = False := eq_false k1
  rw [if_neg k1]
  by_cases k2 : kind = 2
  · subst k2
    rw [if_pos rfl]
    clear n1 m1 k1
    have HP := Aside0.mk (fun w hg => sem_calls s hs w hg)
    clear hs hg
    cases h : psem (Lb s) with
    | none =>
      have H1 := Aside0.mk h
      clear h
      go_enter Tryd.func36, Tryd.ntmps36
      go_wp2_with (go_at_call 67; (with_reducible refine (HP.out _ HG.out).mono ?_); rintro e w1 ⟨ht, hb⟩; rw [H1.out] at ht; obtain ⟨T1, x1, rfl⟩ := ht; have B1 := Aside0.mk hb; clear hb)
      go_ret2
      exact ⟨⟨_, _, rfl⟩, B1.out⟩
    | some q =>
      have H1 := Aside0.mk h
      clear h
      go_enter Tryd.func36, Tryd.ntmps36
      go_wp2_with (go_at_call 67; (with_reducible refine (HP.out _ HG.out).mono ?_); rintro e w1 ⟨ht, hb⟩; rw [H1.out] at ht; obtain ⟨g1, c1, rfl, hv, h1, h2⟩ := ht; have V1 := Aside0.mk hv; have G1 := Aside0.mk (Nat.le_trans (Nat.le_refl _) h1); have C1 := Aside0.mk (Nat.le_trans (Nat.le_refl _) h2); have B1 := Aside0.mk hb; clear hb hv h1 h2)
      go_ret2
      exact ⟨⟨g1, c1, rfl, V1.out, G1.out, C1.out⟩, B1.out⟩
  have n2 : (kind == 2) = false := beq_eq_false_iff_ne.2 k2
  have m2 : (kind = 2) = False := eq_false k2
  rw [if_neg k2]
  by_cases k3 : kind = 3
  · subst k3
    rw [if_pos rfl]
    clear n1 m1 k1 n2 m2 k2
    have HP := Aside0.mk (fun w hg => two_calls s hs w hg)
    clear hs hg
    cases h : ptwo (Lb s) with
    | none =>
      have H1 := Aside0.mk h
      clear h
      go_enter Tryd.func36, Tryd.ntmps36
      go_wp2_with (go_at_call 68; (with_reducible refine (HP.out _ HG.out).mono ?_); rintro e w1 ⟨ht, hb⟩; rw [H1.out] at ht; obtain ⟨T1, x1, rfl⟩ := ht; have B1 := Aside0.mk hb; clear hb)
      go_ret2
      exact ⟨⟨_, _, rfl⟩, B1.out⟩
    | some q =>
      have H1 := Aside0.mk h
      clear h
      go_enter Tryd.func36, Tryd.ntmps36
      go_wp2_with (go_at_call 68; (with_reducible refine (HP.out _ HG.out).mono ?_); rintro e w1 ⟨ht, hb⟩; rw [H1.out] at ht; obtain ⟨g1, c1, rfl, hv, h1, h2⟩ := ht; have V1 := Aside0.mk hv; have G1 := Aside0.mk (Nat.le_trans (Nat.le_refl _) h1); have C1 := Aside0.mk (Nat.le_trans (Nat.le_refl _) h2); have B1 := Aside0.mk hb; clear hb hv h1 h2)
      go_ret2
      exact ⟨⟨g1, c1, rfl, V1.out, G1.out, C1.out⟩, B1.out⟩
  have n3 : (kind == 3) = false := beq_eq_false_iff_ne.2 k3
  have m3 : (kind = 3) = False := eq_false k3
  rw [if_neg k3]
  · skip
    have HP := Aside0.mk (fun w hg => any_calls s hs w hg)
    clear hs hg
    cases h : pany (Lb s) with
    | none =>
      have H1 := Aside0.mk h
      clear h
      go_enter Tryd.func36, Tryd.ntmps36
      go_wp2_with (go_at_call 69; (with_reducible refine (HP.out _ HG.out).mono ?_); rintro e w1 ⟨ht, hb⟩; rw [H1.out] at ht; obtain ⟨T1, x1, rfl⟩ := ht; have B1 := Aside0.mk hb; clear hb)
      go_ret2
      exact ⟨⟨_, _, rfl⟩, B1.out⟩
    | some q =>
      have H1 := Aside0.mk h
      clear h
      go_enter Tryd.func36, Tryd.ntmps36
      go_wp2_with (go_at_call 69; (with_reducible refine (HP.out _ HG.out).mono ?_); rintro e w1 ⟨ht, hb⟩; rw [H1.out] at ht; obtain ⟨g1, c1, rfl, hv, h1, h2⟩ := ht; have V1 := Aside0.mk hv; have G1 := Aside0.mk (Nat.le_trans (Nat.le_refl _) h1); have C1 := Aside0.mk (Nat.le_trans (Nat.le_refl _) h2); have B1 := Aside0.mk hb; clear hb hv h1 h2)
      go_ret2
      exact ⟨⟨g1, c1, rfl, V1.out, G1.out, C1.out⟩, B1.out⟩
/-- What is new since a world is of no block of that world. -/
theorem own_ne {w : World} {base base' g : Nat} {v : Value} {l : List Int} (h : OwnR w base (fun _ => True) v l) (hg : g < base) (hb : base' ≤ base) : OwnR w base' (fun k => k ≠ g) v l :=
  Kd.R_lower (Kd.R_of_own (h1 := fun _ => rfl) (Kd.own_of_R h) (fun k hk => by have := Kd.R_base h k hk; omega)) hb
/-- A version of a text, as data. -/
def vtold (w w' : World) (e : Ending) : Option Pd → Prop
  | none => e = .returned verNil
  | some q => ∃ v0, e = .returned (verOut v0 q.2.1 q.2.2.1 q.2.2.2) ∧ OwnR w' w.heap.size (fun _ => True) v0 (zs q.2.1)
end Go.Proofs.YtomoefldmgfaoaaDoor.Pv
