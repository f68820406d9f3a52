/- Fields matched by a selector's text, as the door has it: the walk. -/
import Derived.Test.YtmfdnpccggnfoaaDoorFdM
set_option linter.unusedVariables false
set_option linter.unusedSimpArgs false
namespace Go.Proofs.YtmfdnpccggnfoaaDoor.Fd
open Go Go.RowKit Go.Maps Go.Proofs.YtmfdnpccggnfoaaDoorW.PrintWords Go.Proofs.YtmfdnpccggnfoaaDoor.Txt Go.Proofs.YtmfdnpccggnfoaaDoor Go.Proofs.YtmfdnpccggnfoaaDoor.PFnFieldMatch Go.Proofs.YtmfdnpccggnfoaaDoor.EscN Go.Proofs.YtmfdnpccggnfoaaDoor.FdN Go.Proofs.YtmfdnpccggnfoaaDoor.FdC Go.Proofs.YtmfdnpccggnfoaaDoor.FdS Go.Proofs.YtmfdnpccggnfoaaDoor.FdU

def ToldF (L : List S33) (e : Ending) : Option (List Tm) → Prop
  | none => e = .returned (.tuple #[.bool false, .bool false, .bool true])
  | some I => e = .returned (.tuple #[.bool ((keep I).all (matchT L)), .bool (keep I).isEmpty, .bool false])
set_option maxRecDepth 1000000 in
set_option maxHeartbeats 12800000 in
theorem fieldMatch_any (s : ByteArray) (K : Nat) (ts : List ByteArray) (hts : fields_splitTerms.f K s = some ts) (hvs : ∀ p ∈ ts, VOk p.data.toList) (hsz : ∀ p ∈ ts, p.size ≤ 4294967296) (hn : ts.length ≤ 4294967296)
    (A1 : Option Addr) (c1 : Nat) (L : List S33) (w : World) (hr : Kd.C k33 w A1 L.length L) (hl : L.length ≤ 4294967296) (hls : ∀ x ∈ L, x.f0.size ≤ 4294967296 ∧ x.f1.size ≤ 4294967296)
    (hI : ∀ I, items (srt (ts.map fun s => s.data.toList)) = some I → I.length ≤ 4294967296 ∧ ∀ t ∈ I, t.2.1.size ≤ 4294967296) :
    Calls Tryd.prog 7 #[.string s, .slice A1 L.length c1] w fun e w' => ToldF L e (items (srt (ts.map fun s => s.data.toList))) ∧ Below w.heap.size w w' := by
  have mixed : Tryd.prog.follows .mixedOrders = true := by kernel_rfl
  have HP := Aside0.mk (parse_any s K ts hts hvs hsz hn w)
  have HLB := Aside0.mk (fun (w1 : World) (x : Below w.heap.size w w1) => fieldSet_any A1 c1 L w1 (Kd.C_below hr x) hl hls)
  clear hts hvs hsz hn hr hl hls
  cases hi : items (srt (ts.map fun s => s.data.toList)) with
  | none =>
    rw [hi] at HP
    clear hI HLB hi
    go_enter Tryd.func7, Tryd.ntmps7
    go_wp2_with (first | (go_at_call 14; (with_reducible refine (HP.out).mono ?_); rintro e w1 ⟨ht, hb⟩; replace ht : ∃ (X : TypeId) (x : Value), e = .returned (.tuple #[.nilIface, .iface X x]) := ht; obtain ⟨X, x, rfl⟩ := ht; have B1 := Aside0.mk hb; clear hb))
    go_ret3
    exact ⟨rfl, B1.out⟩
  | some I =>
    rw [hi] at HP
    obtain ⟨hI1, hI2⟩ := hI I hi
    have HK1 : Aside0 ((keep I).length ≤ 4294967296) := ⟨Nat.le_trans (keep_len I) hI1⟩
    have HK2 : Aside0 (∀ t ∈ keep I, t.2.1.size ≤ maxLen) := ⟨fun t ht => by have := hI2 t (List.mem_filter.1 ht).1; unfold maxLen; omega⟩
    clear hI hi hI1 hI2
    have HP2 : Aside0 (Calls Tryd.prog 14 #[.string s] w fun e w1 => ((∃ v, e = .returned (.tuple #[v, .nilIface]) ∧ IsSel w1 v (keep I)) ∧ Below w.heap.size w w1)) := HP
    clear HP
    show Calls Tryd.prog 7 #[.string s, .slice A1 L.length c1] w fun e w' => e = .returned (.tuple #[.bool ((keep I).all (matchT L)), .bool (keep I).isEmpty, .bool false]) ∧ Below w.heap.size w w'
    generalize keep I = J at HK1 HK2 HP2 ⊢
    go_enter Tryd.func7, Tryd.ntmps7
    go_wp2_with fail
    refine (HP2.out).mono ?_
    rintro e w1 ⟨⟨v, rfl, hs⟩, hb⟩
    have B1 := Aside0.mk hb
    clear hb HP2
    rcases hs with ⟨t, g, rfl, rfl, hta⟩ | ⟨A, c, xs, rfl, hC, hT⟩
    · obtain ⟨bb, f, v⟩ := t
      have hf := HK2.out _ (List.mem_singleton.2 rfl)
      have hall : [((bb, f, v) : Tm)].all (matchT L) = matchT L (bb, f, v) := by simp
      have hemp : [((bb, f, v) : Tm)].isEmpty = false := rfl
      have HALL := Aside0.mk hall
      clear HK1 HK2 hall hemp
      cases bb with
      | true =>
        have na1 := na_Matches_true g
        have me1 := me_Matches_true g
        have na2 := na_Empty_true g
        have me2 := me_Empty_true g
        have HMA := Aside0.mk (fun (b n : Nat) (w' : World) (x : Below w1.heap.size w1 w') (hm : IsMapS w' b n L) => matches_true g f v b n L w' (hta.below x) hm hf)
        clear hta hf
        rw [show enc (((true, f, v) : Tm).1, g) = .iface 70 (.pointer (some ⟨g, 0, none⟩)) from rfl]
        go_wp2
        go_region_held3 (fun _ => True) (exact trivial)
          (first
            | (go_at_call 15; (with_reducible refine (HLB.out _ (below_drew1 B1.out)).mono ?_); rintro e w2 ⟨b, rfl, hm, hb⟩; have B2 := Aside0.mk (below_step (below_drew1 (Below.refl w1.heap.size w1)) hb); have HMP := Aside0.mk hm; clear hb hm)
            | (go_at_call 91; (with_reducible refine (HMA.out _ _ _ B2.out HMP.out).mono ?_); rintro e w3 ⟨rfl, hb⟩; have B3 := Aside0.mk (below_step B2.out hb); clear hb)
            | (go_at_call 90; (with_reducible refine (empty_true _ _).mono ?_); rintro e w4 ⟨rfl, rfl⟩))
        all_goals go_wp2
        all_goals go_ret3
        all_goals exact ⟨by rw [HALL.out]; rfl, below_step B1.out B3.out⟩
      | false =>
        have na1 := na_Matches_false g
        have me1 := me_Matches_false g
        have na2 := na_Empty_false g
        have me2 := me_Empty_false g
        have HMA := Aside0.mk (fun (b n : Nat) (w' : World) (x : Below w1.heap.size w1 w') (hm : IsMapS w' b n L) => matches_false g f v b n L w' (hta.below x) hm hf)
        clear hta hf
        rw [show enc (((false, f, v) : Tm).1, g) = .iface 67 (.pointer (some ⟨g, 0, none⟩)) from rfl]
        go_wp2
        go_region_held3 (fun _ => True) (exact trivial)
          (first
            | (go_at_call 15; (with_reducible refine (HLB.out _ (below_drew1 B1.out)).mono ?_); rintro e w2 ⟨b, rfl, hm, hb⟩; have B2 := Aside0.mk (below_step (below_drew1 (Below.refl w1.heap.size w1)) hb); have HMP := Aside0.mk hm; clear hb hm)
            | (go_at_call 83; (with_reducible refine (HMA.out _ _ _ B2.out HMP.out).mono ?_); rintro e w3 ⟨rfl, hb⟩; have B3 := Aside0.mk (below_step B2.out hb); clear hb)
            | (go_at_call 82; (with_reducible refine (empty_false _ _).mono ?_); rintro e w4 ⟨rfl, rfl⟩))
        all_goals go_wp2
        all_goals go_ret3
        all_goals exact ⟨by rw [HALL.out]; rfl, below_step B1.out B3.out⟩
    · have na1 := na_Matches_and
      have me1 := me_Matches_and
      have na2 := na_Empty_and
      have me2 := me_Empty_and
      have HMA := Aside0.mk (fun (b n : Nat) (w' : World) (x : Below w1.heap.size w1 w') (hm : IsMapS w' b n L) => andMatches_any A c xs J b n L w' (Kd.C_below hC x) (hT.below x) HK1.out hm HK2.out)
      by_cases h0 : J = []
      · subst h0
        have HEM := Aside0.mk (fun (w' : World) (x : Below w1.heap.size w1 w') => emptyAnd_none A c w')
        replace HMA : Aside0 (∀ (b n : Nat) (w' : World), Below w1.heap.size w1 w' → IsMapS w' b n L → Calls Tryd.prog 98 #[.slice A 0 c, .iface 53 (.map (some b))] w' fun e w'' => e = .returned (.bool true) ∧ Below w'.heap.size w' w'') := ⟨fun b n w' x hm => HMA.out b n w' x hm⟩
        clear hC hT HK1 HK2
        go_wp2
        go_region_held3 (fun _ => True) (exact trivial)
          (first
            | (go_at_call 15; (with_reducible refine (HLB.out _ (below_drew1 B1.out)).mono ?_); rintro e w2 ⟨b, rfl, hm, hb⟩; have B2 := Aside0.mk (below_step (below_drew1 (Below.refl w1.heap.size w1)) hb); have HMP := Aside0.mk hm; clear hb hm)
            | (go_at_call 98; (with_reducible refine (HMA.out _ _ _ B2.out HMP.out).mono ?_); rintro e w3 ⟨rfl, hb⟩; have B3 := Aside0.mk (below_step B2.out hb); clear hb)
            | (go_at_call 97; (with_reducible refine (HEM.out _ B3.out).mono ?_); rintro e w4 ⟨rfl, hb⟩; have B4 := Aside0.mk (below_step B3.out hb); clear hb))
        all_goals go_wp2
        all_goals go_ret3
        all_goals exact ⟨rfl, below_step B1.out B4.out⟩
      · have HEM := Aside0.mk (fun (w' : World) (x : Below w1.heap.size w1 w') => andEmpty_some A c xs J w' (Kd.C_below hC x) (hT.below x) HK1.out h0)
        have hemp : J.isEmpty = false := by cases J with | nil => exact absurd rfl h0 | cons a b => rfl
        have HEMP := Aside0.mk hemp
        clear hC hT HK1 HK2 h0 hemp
        go_wp2
        go_region_held3 (fun _ => True) (exact trivial)
          (first
            | (go_at_call 15; (with_reducible refine (HLB.out _ (below_drew1 B1.out)).mono ?_); rintro e w2 ⟨b, rfl, hm, hb⟩; have B2 := Aside0.mk (below_step (below_drew1 (Below.refl w1.heap.size w1)) hb); have HMP := Aside0.mk hm; clear hb hm)
            | (go_at_call 98; (with_reducible refine (HMA.out _ _ _ B2.out HMP.out).mono ?_); rintro e w3 ⟨rfl, hb⟩; have B3 := Aside0.mk (below_step B2.out hb); clear hb)
            | (go_at_call 97; (with_reducible refine (HEM.out _ B3.out).mono ?_); rintro e w4 ⟨rfl, hb⟩; have B4 := Aside0.mk (below_step B3.out hb); clear hb))
        all_goals go_wp2
        all_goals go_ret3
        all_goals exact ⟨by rw [HEMP.out]; rfl, below_step B1.out B4.out⟩
end Go.Proofs.YtmfdnpccggnfoaaDoor.Fd
