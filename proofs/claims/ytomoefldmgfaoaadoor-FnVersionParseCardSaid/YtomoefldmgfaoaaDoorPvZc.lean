/- Versions: a version is told as it is. -/
import Derived.Test.YtomoefldmgfaoaaDoorPvZa
import Derived.Test.YtomoefldmgfaoaaDoorPFnVersionParsex8
set_option linter.unusedVariables false
set_option linter.unusedSimpArgs false
namespace Go.Proofs.YtomoefldmgfaoaaDoor.Pv.SFnVersionParse
open Go Go.RowKit Go.Proofs.YtomoefldmgfaoaaDoor Go.Proofs.YtomoefldmgfaoaaDoorW.PrintWords Go.Proofs.YtomoefldmgfaoaaDoor.PFnVersionParse Go.Proofs.YtomoefldmgfaoaaDoor.Txt Go.Proofs.YtomoefldmgfaoaaDoor.Small Go.Proofs.YtomoefldmgfaoaaDoor.Pv

theorem emp : (mk [] : ByteArray) = ⟨#[]⟩ := rfl
theorem mk_app (a b : Bs) : mk a ++ mk b = mk (a ++ b) := ext (by rw [data_append])
theorem uintText_ev : ∀ (u : Nat), u < 18446744073709551616 → Ev (fun k => spec_VerUintText.f k (u : Int)) (mk (Lib.decDigits u)) := by
  intro u
  refine dec_induct (fun u => u < 18446744073709551616 → Ev (fun k => spec_VerUintText.f k (u : Int)) (mk (Lib.decDigits u))) ?_ ?_ u
  · intro u h hu
    have e1 : IntKind.u64.wrap (48 + Int.tmod (u : Int) 10) % 256 = ((48 + u : Nat) : Int) := by
      rw [IntKind.wrap_u64, show Int.tmod (u : Int) 10 = ((u % 10 : Nat) : Int) from rfl]; omega
    refine Evs.at1 fun k => ?_
    show spec_VerUintText.f (k + 1) (u : Int) = _
    rw [spec_VerUintText.f, e1, Option.bind_some, if_pos (by omega), Lib.decDigits_one h]
    rfl
  · intro u h ih hu
    have e1 : IntKind.u64.wrap (48 + Int.tmod (u : Int) 10) % 256 = ((48 + u % 10 : Nat) : Int) := by
      rw [IntKind.wrap_u64, show Int.tmod (u : Int) 10 = ((u % 10 : Nat) : Int) from rfl]; omega
    have e2 : IntKind.u64.wrap (Int.tdiv (u : Int) 10) = ((u / 10 : Nat) : Int) := by
      rw [IntKind.wrap_u64, show Int.tdiv (u : Int) 10 = ((u / 10 : Nat) : Int) from rfl]; omega
    have e3 : strOfNums [((48 + u % 10 : Nat) : Int)] = mk [UInt8.ofNat (48 + u % 10)] := rfl
    refine step (f := fun k => (spec_VerUintText.f k ((u / 10 : Nat) : Int)).bind fun t104 => (if t104.size + (mk [UInt8.ofNat (48 + u % 10)]).size ≤ 9223372036854775807 then (some (t104 ++ mk [UInt8.ofNat (48 + u % 10)])) else none)) (fun k => ?_) (bindE (ih (by omega)) ?_)
    · show spec_VerUintText.f (k + 1) (u : Int) = _
      rw [spec_VerUintText.f, e1, Option.bind_some, if_neg (by omega), e2, e3]
    · have hl := dec_len (u / 10) (by omega)
      refine congr (f := fun _ => some (mk (Lib.decDigits u))) (fun k => ?_) (const _)
      rw [if_pos (by rw [size_mk, size_mk]; simp only [List.length_cons, List.length_nil]; omega), mk_app, dec_last u h]
theorem rd_zs (ns : List Nat) (k : Nat) : rd (zs ns) (k : Int) = (pt ns k : Int) := by
  unfold rd pt
  rw [Int.toNat_natCast, List.getD_eq_getElem?_getD, List.getD_eq_getElem?_getD, List.getElem?_map]
  cases ns[k]? <;> rfl
theorem textI_ev (ns : List Nat) (sem : Bool) (p b : Bs) (hns : ∀ n ∈ ns, n < 18446744073709551616) (hl : ns.length ≤ 8589934594) (hp : p.length ≤ 8589934592) (hb : b.length ≤ 8589934592) : ∀ (n i : Nat), ns.length - i = n → i ≤ ns.length → Ev (fun k => spec_Version_Text.l0 k (mk (decs (ns.take i))) (i : Int) (zs ns) sem (mk p) (mk b)) (mk (vtxt ns p b)) := by
  have hJ : ∀ k, k ≤ ns.length → (decs (ns.take k)).length ≤ 21 * ns.length := fun k hk => by
    have := decs_len (ns.take k) (fun n hn => hns n (List.mem_of_mem_take hn))
    rw [List.length_take] at this
    omega
  intro n
  induction n with
  | zero =>
    intro i h1 h2
    obtain rfl : i = ns.length := by omega
    have hj := hJ ns.length (Nat.le_refl _)
    rw [List.take_length] at hj ⊢
    refine Evs.at1 fun k => ?_
    rw [spec_Version_Text.l0, if_neg (by rw [List.length_map]; omega), toL_mk, toL_mk]
    have m45 : (⟨#[45]⟩ : ByteArray) = mk [45] := rfl
    have m43 : (⟨#[43]⟩ : ByteArray) = mk [43] := rfl
    rw [m45, m43]
    simp only [mk_app, size_mk, List.length_append, List.length_cons, List.length_nil]
    unfold vtxt
    by_cases h3 : p = [] <;> by_cases h4 : b = []
    · rw [if_pos h3, if_pos h4, if_pos h3, if_pos h4]; simp
    · rw [if_pos h3, if_neg h4, if_pos (by omega), if_pos (by omega), if_pos h3, if_neg h4]; simp
    · rw [if_neg h3, if_pos (by omega), if_pos (by omega), if_pos h4, if_neg h3, if_pos h4]; simp
    · rw [if_neg h3, if_pos (by omega), if_pos (by omega), if_neg h4, if_pos (by omega), if_pos (by omega), if_neg h3, if_neg h4]; simp
  | succ n ih =>
    intro i h1 h2
    have hlt : i < ns.length := by omega
    have hj := hJ i h2
    have hu := uintText_ev ns[i] (hns _ (List.getElem_mem hlt))
    have hd := dec_len ns[i] (hns _ (List.getElem_mem hlt))
    have hrd : rd (zs ns) (i : Int) = (ns[i] : Int) := by rw [rd_zs, pt_at hlt]
    have hi := ih (i + 1) (by omega) hlt
    have ht : ns.take (i + 1) = ns.take i ++ [ns[i]] := List.take_succ_eq_append_getElem hlt
    have m46 : (⟨#[46]⟩ : ByteArray) = mk [46] := rfl
    by_cases h0 : i = 0
    · subst h0
      have e : decs (ns.take (0 + 1)) = decs (ns.take 0) ++ Lib.decDigits ns[0] := by rw [ht]; rfl
      rw [e] at hi
      refine step (f := fun k => (spec_VerUintText.f k (ns[0] : Int)).bind fun t109 => (if (mk (decs (ns.take 0))).size + t109.size ≤ 9223372036854775807 then (spec_Version_Text.l0 k (mk (decs (ns.take 0)) ++ t109) ((0 + 1 : Nat) : Int) (zs ns) sem (mk p) (mk b)) else (none))) (fun k => ?_) (bindE hu ?_)
      · rw [spec_Version_Text.l0, if_pos (by rw [List.length_map]; omega), if_neg (by omega), if_pos (by omega), hrd, w64s 0 (by omega)]
      · refine congr (fun k => ?_) hi
        rw [if_pos (by rw [size_mk, size_mk]; omega), mk_app]
    · have e : decs (ns.take (i + 1)) = decs (ns.take i) ++ [46] ++ Lib.decDigits ns[i] := by
        rw [ht, decs_snoc _ _ (by intro e; have := congrArg List.length e; rw [List.length_take, List.length_nil] at this; omega)]
      rw [e] at hi
      refine step (f := fun k => (spec_VerUintText.f k (ns[i] : Int)).bind fun t107 => (if (mk (decs (ns.take i)) ++ (⟨#[46]⟩ : ByteArray)).size + t107.size ≤ 9223372036854775807 then (spec_Version_Text.l0 k ((mk (decs (ns.take i)) ++ (⟨#[46]⟩ : ByteArray)) ++ t107) ((i + 1 : Nat) : Int) (zs ns) sem (mk p) (mk b)) else (none))) (fun k => ?_) (bindE hu ?_)
      · rw [spec_Version_Text.l0, if_pos (by rw [List.length_map]; omega), if_pos (by omega), if_pos (by rw [size_mk]; omega), if_pos (by omega), hrd, w64s i (by omega)]
      · refine congr (fun k => ?_) hi
        rw [m46, mk_app, mk_app, if_pos (by rw [size_mk, size_mk, List.length_append]; simp only [List.length_cons, List.length_nil]; omega)]
theorem text_ev (ns : List Nat) (sem : Bool) (p b : Bs) (hns : ∀ n ∈ ns, n < 18446744073709551616) (hl : ns.length ≤ 8589934594) (hp : p.length ≤ 8589934592) (hb : b.length ≤ 8589934592) : Ev (fun k => spec_Version_Text.f k (zs ns) sem (mk p) (mk b)) (mk (vtxt ns p b)) := by
  have h := textI_ev ns sem p b hns hl hp hb _ 0 rfl (Nat.zero_le _)
  exact h
theorem part_f (ns : List Nat) (sem : Bool) (p b : ByteArray) (i : Nat) : spec_Version_part.f (zs ns) sem p b (i : Int) = some (pt ns i : Int) := by
  unfold spec_Version_part.f
  by_cases h : i < ns.length
  · rw [if_pos (by rw [List.length_map]; omega), if_pos (by omega), rd_zs]
  · rw [if_neg (by rw [List.length_map]; omega), pt_no (by omega)]; rfl
theorem sameI_ev (ns : List Nat) (sem : Bool) (p b : ByteArray) (x0 : Bool) (x2 x3 x4 : ByteArray) (x5 x6 : Int) (hl : ns.length ≤ 8589934594) : ∀ (n i : Nat), ns.length - i = n → i ≤ ns.length → Ev (fun k => spec_SameVer.l0 k (i : Int) (zs ns) sem p b x0 (zs ns) x2 x3 x4 x5 x6 (pt ns 2 : Int)) true := by
  intro n
  have h2 := part_f ns sem p b 2
  induction n with
  | zero =>
    intro i h1 h3
    refine Evs.at1 fun k => ?_
    rw [spec_SameVer.l0, if_neg (by rw [List.length_map]; omega)]
    have h2' : spec_Version_part.f (zs ns) sem p b 2 = some (pt ns 2 : Int) := h2
    rw [h2', Option.bind_some]
    have hb : (((pt ns 2 : Int) == (pt ns 2 : Int)) : Bool) = true := beq_self_eq_true _
    rw [hb]
    repeat' split
    all_goals rfl
  | succ n ih =>
    intro i h1 h3
    refine step (f := fun k => spec_SameVer.l0 k ((i + 1 : Nat) : Int) (zs ns) sem p b x0 (zs ns) x2 x3 x4 x5 x6 (pt ns 2 : Int)) (fun k => ?_) (ih (i + 1) (by omega) (by omega))
    rw [spec_SameVer.l0, if_pos (by rw [List.length_map]; omega), if_pos (by omega), if_pos (by rw [List.length_map]; omega), if_pos rfl, w64s i (by omega)]
/-- A version is told as it is. -/
theorem same_ev (ns : List Nat) (sem : Bool) (p b : Bs) (hns : ∀ n ∈ ns, n < 18446744073709551616) (hl : ns.length ≤ 8589934594) (hp : p.length ≤ 8589934592) (hb : b.length ≤ 8589934592) :
    Ev (fun k => spec_SameVer.f k (zs ns) sem (mk p) (mk b) true (zs ns) (mk p) (mk b) (mk (vtxt ns p b)) (pt ns 0 : Int) (pt ns 1 : Int) (pt ns 2 : Int)) true := by
  refine congr (f := fun k => (spec_Version_Text.f k (zs ns) sem (mk p) (mk b)).bind fun t114 => (if (mk (vtxt ns p b)).toList = t114.toList then ((spec_Version_part.f (zs ns) sem (mk p) (mk b) 0).bind fun t115 => (if (pt ns 0 : Int) = t115 then ((spec_Version_part.f (zs ns) sem (mk p) (mk b) 1).bind fun t116 => (spec_SameVer.j0 k ((pt ns 1 : Int) != t116) (zs ns) sem (mk p) (mk b) true (zs ns) (mk p) (mk b) (mk (vtxt ns p b)) (pt ns 0 : Int) (pt ns 1 : Int) (pt ns 2 : Int))) else none)) else none)) (fun k => by
    unfold spec_SameVer.f
    rw [if_pos rfl, if_pos rfl, if_pos rfl, if_pos rfl]) ?_
  refine bindE (text_ev ns sem p b hns hl hp hb) ?_
  have p0 : spec_Version_part.f (zs ns) sem (mk p) (mk b) 0 = some (pt ns 0 : Int) := part_f ns sem _ _ 0
  have p1 : spec_Version_part.f (zs ns) sem (mk p) (mk b) 1 = some (pt ns 1 : Int) := part_f ns sem _ _ 1
  refine congr (f := fun k => spec_SameVer.j0 k false (zs ns) sem (mk p) (mk b) true (zs ns) (mk p) (mk b) (mk (vtxt ns p b)) (pt ns 0 : Int) (pt ns 1 : Int) (pt ns 2 : Int)) (fun k => by
    rw [if_pos rfl, p0, Option.bind_some, if_pos rfl, p1, Option.bind_some, bne_self_eq_false]) ?_
  refine step (f := fun k => spec_SameVer.l0 k ((0 : Nat) : Int) (zs ns) sem (mk p) (mk b) true (zs ns) (mk p) (mk b) (mk (vtxt ns p b)) (pt ns 0 : Int) (pt ns 1 : Int) (pt ns 2 : Int)) (fun k => by rw [spec_SameVer.j0, if_neg (by simp)]; rfl) (sameI_ev ns sem _ _ _ _ _ _ _ _ hl _ 0 rfl (Nat.zero_le _))
end Go.Proofs.YtomoefldmgfaoaaDoor.Pv.SFnVersionParse
