/- Versions: the reference's version of a text, and the law: in plain Lean. -/
import Derived.Test.YtomoefldmgfaoaaDoorPvZb
import Derived.Test.YtomoefldmgfaoaaDoorPvZc
import Derived.Test.YtomoefldmgfaoaaDoorPFnVersionParsex8
set_option linter.unusedVariables false
set_option linter.unusedSimpArgs false
namespace Go.Proofs.YtomoefldmgfaoaaDoor.Pv.SFnVersionParse
open Go Go.RowKit Go.Proofs.YtomoefldmgfaoaaDoor Go.Proofs.YtomoefldmgfaoaaDoorW.PrintWords Go.Proofs.YtomoefldmgfaoaaDoor.PFnVersionParse Go.Proofs.YtomoefldmgfaoaaDoor.Txt Go.Proofs.YtomoefldmgfaoaaDoor.Small Go.Proofs.YtomoefldmgfaoaaDoor.Pv

/-- What the reference says of a text: nothing, that it is no version, or the version. -/
def ParsedSays (R : List Int × Bool × ByteArray × ByteArray × Bool × Bool) (o : Option Pd) : Prop :=
  R.2.2.2.2.2 = false ∨ (R.2.2.2.2.2 = true ∧ match o with
    | none => R.2.2.2.2.1 = false
    | some q => R = (zs q.2.1, q.1, mk q.2.2.1, mk q.2.2.2, true, true))
theorem pgen_eq {l : Bs} (h : 10 ∉ (fieldsOf l).2) : pgen l = (sGen l).map fun ns => (false, ns, [], []) := by
  unfold pgen
  rw [pparse_gen h]
  cases sGen l <;> rfl
theorem psem_eq {l : Bs} (h : 10 ∉ (fieldsOf l).2) (hl : long 0 (fieldsOf l).2 = false) : psem l = (sSem l).map fun q => (true, q.1, q.2.1, q.2.2) := by
  unfold psem
  rw [pparse_sem h hl]
theorem sGen_len {l : Bs} {ns : List Nat} (h : sGen l = some ns) : 2 ≤ ns.length := by
  unfold sGen at h
  by_cases c : (fieldsOf l).1.length < 2
  · rw [if_pos c] at h; cases h
  · rw [if_neg c] at h
    have := nums_len h
    omega
theorem take_two {ns : List Nat} (h : 2 ≤ ns.length) : (zs ns).take 2 = zs [pt ns 0, pt ns 1] := by
  match ns, h with
  | a :: b :: t, _ => rfl
abbrev gtail (kind : Int) (bt : List Int × Bool × ByteArray × ByteArray × Bool × Bool) : Option (List Int × Bool × ByteArray × ByteArray × Bool × Bool) :=
  if bt.2.2.2.2.1 = true then (if kind = 3 then (if 2 ≤ (bt.1.length : Int) then (some ((bt.1.take (2 : Int).toNat), bt.2.1, bt.2.2.1, bt.2.2.2.1, bt.2.2.2.2.1, bt.2.2.2.2.2)) else (none)) else (some (bt.1, bt.2.1, bt.2.2.1, bt.2.2.2.1, bt.2.2.2.2.1, bt.2.2.2.2.2))) else (some (bt.1, bt.2.1, bt.2.2.1, bt.2.2.2.1, bt.2.2.2.2.1, bt.2.2.2.2.2))
theorem gen_says (l : Bs) (h10 : 10 ∉ (fieldsOf l).2) (kind : Int) : ∃ R, gtail kind (genR l) = some R ∧ ParsedSays R (if kind = 3 then ptwo l else pgen l) := by
  unfold genR gtail
  rw [if_neg h10]
  unfold ptwo
  rw [pgen_eq h10]
  cases hs : sGen l with
  | none =>
    refine ⟨_, rfl, Or.inr ⟨rfl, ?_⟩⟩
    by_cases h3 : kind = 3
    · rw [if_pos h3]; rfl
    · rw [if_neg h3]; rfl
  | some ns =>
    have h2 := sGen_len hs
    by_cases h3 : kind = 3
    · simp only [if_pos h3]
      refine ⟨(zs [pt ns 0, pt ns 1], false, ⟨#[]⟩, ⟨#[]⟩, true, true), ?_, Or.inr ⟨rfl, rfl⟩⟩
      have ht := take_two h2
      show (if (true : Bool) = true then (if 2 ≤ ((zs ns).length : Int) then some ((zs ns).take 2, false, (⟨#[]⟩ : ByteArray), (⟨#[]⟩ : ByteArray), true, true) else none) else some (zs ns, false, (⟨#[]⟩ : ByteArray), (⟨#[]⟩ : ByteArray), true, true)) = _
      rw [if_pos rfl, if_pos (by rw [List.length_map]; omega), ht]
    · simp only [if_neg h3]
      exact ⟨_, rfl, Or.inr ⟨rfl, rfl⟩⟩
theorem parsed_ev (kind : Int) (l : Bs) (hl : l.length ≤ 8589934592) : ∃ R, Ev (fun k => spec_VerParsed.f k kind (mk l)) R ∧ ParsedSays R (pkind kind l) := by
  have hfe := fieldsOf_ev l hl
  have hrl := fields_rest l
  have hass : ∀ k, spec_VerParsed.f k kind (mk l) = ((spec_verAhead.f k (mk l)).bind fun t => spec_verFields.f k t).bind fun bt191 => ((spec_verPlace.f k bt191.2 10).bind fun t195 => (if t195 ≥ 0 then (spec_VerParsed.j0 k kind (mk l) true) else (if kind = 1 then (spec_VerParsed.j0 k kind (mk l) false) else (if kind = 3 then (spec_VerParsed.j0 k kind (mk l) false) else ((spec_VerLong.f k bt191.2).bind fun t196 => (spec_VerParsed.j0 k kind (mk l) t196)))))) := fun k => by
    unfold spec_VerParsed.f
    cases spec_verAhead.f k (mk l) <;> rfl
  have hp : Ev (fun k => spec_verPlace.f k (mk (fieldsOf l).2) 10) (idxs 10 0 (fieldsOf l).2) := place_ev 10 (fieldsOf l).2 (by omega)
  have hmem := idxs_mem 10 (fieldsOf l).2
  have no : Ev (fun k => spec_VerParsed.j0 k kind (mk l) true) ([], false, ⟨#[]⟩, ⟨#[]⟩, false, false) := Evs.at1 fun k => by rw [spec_VerParsed.j0, if_pos rfl]
  have wrapE : ∀ R, Ev (fun k => if idxs 10 0 (fieldsOf l).2 ≥ 0 then (spec_VerParsed.j0 k kind (mk l) true) else (if kind = 1 then (spec_VerParsed.j0 k kind (mk l) false) else (if kind = 3 then (spec_VerParsed.j0 k kind (mk l) false) else ((spec_VerLong.f k (mk (fieldsOf l).2)).bind fun t196 => (spec_VerParsed.j0 k kind (mk l) t196))))) R → Ev (fun k => spec_VerParsed.f k kind (mk l)) R := fun R h => congr hass (bindE hfe (bindE hp h))
  by_cases h10 : 10 ∈ (fieldsOf l).2
  · exact ⟨_, wrapE _ (congr (fun k => if_pos (hmem.2 h10)) no), Or.inl rfl⟩
  · have hge : ¬ idxs 10 0 (fieldsOf l).2 ≥ 0 := fun h => h10 (hmem.1 h)
    have hgen := generic_ev l hl
    obtain ⟨R0, hR0, hS0⟩ := gen_says l h10 kind
    -- a generic one
    have genj : Ev (fun k => spec_VerParsed.j1 k kind (mk l) false) R0 := by
      refine step (f := fun k => (spec_VerGeneric.f k (mk l)).bind fun bt => gtail kind bt) (fun k => by rw [spec_VerParsed.j1, if_neg (by simp)]) (bindE hgen ?_)
      exact congr (f := fun _ => some R0) (fun k => hR0) (const _)
    have genk : Ev (fun k => (spec_VerGeneric.f k (mk l)).bind fun bt => gtail kind bt) R0 := bindE hgen (congr (f := fun _ => some R0) (fun k => hR0) (const _))
    by_cases k1 : kind = 1
    · have e : pkind kind l = (if kind = 3 then ptwo l else pgen l) := by unfold pkind; rw [if_pos k1, if_neg (by omega)]
      rw [e]
      refine ⟨R0, wrapE _ (congr (fun k => by rw [if_neg hge, if_pos k1]) ?_), hS0⟩
      exact step (f := fun k => spec_VerParsed.j1 k kind (mk l) false) (fun k => by rw [spec_VerParsed.j0, if_neg (by simp), if_pos k1]) genj
    · by_cases k3 : kind = 3
      · have e : pkind kind l = (if kind = 3 then ptwo l else pgen l) := by unfold pkind; rw [if_neg k1, if_neg (by omega), if_pos k3, if_pos k3]
        rw [e]
        refine ⟨R0, wrapE _ (congr (fun k => by rw [if_neg hge, if_neg k1, if_pos k3]) ?_), hS0⟩
        exact step (f := fun k => spec_VerParsed.j1 k kind (mk l) false) (fun k => by rw [spec_VerParsed.j0, if_neg (by simp), if_neg k1, show (kind != 3) = false from bne_eq_false_iff_eq.2 k3]) genj
      · rw [if_neg k3] at hS0
        have hlong := long_ev (fieldsOf l).2 (by omega)
        have wrapL : ∀ R, Ev (fun k => spec_VerParsed.j0 k kind (mk l) (long 0 (fieldsOf l).2)) R → Ev (fun k => spec_VerParsed.f k kind (mk l)) R := fun R h => wrapE _ (congr (fun k => by rw [if_neg hge, if_neg k1, if_neg k3]) (bindE hlong h))
        cases hlg : long 0 (fieldsOf l).2 with
        | true => rw [hlg] at wrapL; exact ⟨_, wrapL _ no, Or.inl rfl⟩
        | false =>
          rw [hlg] at wrapL
          obtain ⟨S, hS, hSay⟩ := semantic_ev l hl
          have hps := psem_eq h10 hlg
          have wrapS : ∀ R, Ev (fun k => if S.2.2.2.2 = true then (spec_VerParsed.j2 k kind (mk l) S.2.2.2.2 true S.1 S.2.1 S.2.2.1 S.2.2.2.1) else (spec_VerParsed.j2 k kind (mk l) S.2.2.2.2 (kind == 2) S.1 S.2.1 S.2.2.1 S.2.2.2.1)) R → Ev (fun k => spec_VerParsed.f k kind (mk l)) R := fun R h => by
            refine wrapL _ (step (f := fun k => spec_VerParsed.j1 k kind (mk l) true) (fun k => by rw [spec_VerParsed.j0, if_neg (by simp), if_neg k1, bne_iff_ne.2 k3]) ?_)
            exact step (f := fun k => (spec_VerSemantic.f k (mk l)).bind fun bt197 => (if bt197.2.2.2.2 = true then (spec_VerParsed.j2 k kind (mk l) bt197.2.2.2.2 true bt197.1 bt197.2.1 bt197.2.2.1 bt197.2.2.2.1) else (spec_VerParsed.j2 k kind (mk l) bt197.2.2.2.2 (kind == 2) bt197.1 bt197.2.1 bt197.2.2.1 bt197.2.2.2.1))) (fun k => by rw [spec_VerParsed.j1, if_pos rfl]) (bindE hS h)
          cases hss : sSem l with
          | some q =>
            rw [hss] at hSay hps
            have hSay' : S = (zs q.1, true, mk q.2.1, mk q.2.2, true) := hSay
            subst hSay'
            have e : pkind kind l = some (true, q.1, q.2.1, q.2.2) := by
              unfold pkind pany
              rw [if_neg k1, if_neg k3, hps]
              split <;> rfl
            rw [e]
            refine ⟨(zs q.1, true, mk q.2.1, mk q.2.2, true, true), wrapS _ (congr (fun k => if_pos rfl) (Evs.at1 fun k => by rw [spec_VerParsed.j2, if_pos rfl])), Or.inr ⟨rfl, rfl⟩⟩
          | none =>
            rw [hss] at hSay hps
            have hno : S.2.2.2.2 = false := hSay
            by_cases k2 : kind = 2
            · have e : pkind kind l = none := by unfold pkind; rw [if_neg k1, if_pos k2, hps]; rfl
              rw [e]
              refine ⟨(S.1, S.2.1, S.2.2.1, S.2.2.2.1, S.2.2.2.2, true), wrapS _ (congr (fun k => if_neg (by rw [hno]; simp)) (Evs.at1 fun k => by rw [spec_VerParsed.j2, beq_iff_eq.2 k2, if_pos rfl])), Or.inr ⟨rfl, hno⟩⟩
            · have e : pkind kind l = pgen l := by unfold pkind pany; rw [if_neg k1, if_neg k2, if_neg k3, hps]; rfl
              rw [e]
              refine ⟨R0, wrapS _ (congr (fun k => if_neg (by rw [hno]; simp)) ?_), hS0⟩
              exact step (f := fun k => (spec_VerGeneric.f k (mk l)).bind fun bt => gtail kind bt) (fun k => by rw [spec_VerParsed.j2, beq_eq_false_iff_ne.2 k2, if_neg (by simp)]) genk
theorem law_holds : laws_FnVersionParse.Pure := by
  intro a0 a1 _ _
  by_cases hs : (a1.size : Int) > 2147483647
  · exact ⟨0, by unfold laws_FnVersionParse.f; rw [if_pos hs]⟩
  · have hsz : a1.size = (Lb a1).length := size_len a1
    refine Ev.rounds (g := fun k => laws_FnVersionParse.f k a0 a1) ?_
    have hv : ∃ kd, laws_verKind.f a0 = some kd := ⟨_, rfl⟩
    obtain ⟨kd, hv⟩ := hv
    obtain ⟨R, hR, hS⟩ := parsed_ev kd (Lb a1) (by omega)
    rw [mk_Lb] at hR
    refine congr (f := fun k => (spec_VerParsed.f k kd a1).bind fun bt228 => (if bt228.2.2.2.2.2 = true then ((impl_VersionParse.f kd a1).bind fun bt237 => (if bt228.2.2.2.2.1 = true then ((spec_SameVer.f k bt228.1 bt228.2.1 bt228.2.2.1 bt228.2.2.2.1 bt237.1 bt237.2.1 bt237.2.2.1 bt237.2.2.2.1 bt237.2.2.2.2.1 bt237.2.2.2.2.2.1 bt237.2.2.2.2.2.2.1 bt237.2.2.2.2.2.2.2).bind fun t248 => (some t248)) else (some (!bt237.1)))) else (some true))) (fun k => by
      unfold laws_FnVersionParse.f
      rw [if_neg hs, hv, Option.bind_some]) (bindE hR ?_)
    rcases hS with h0 | ⟨h1, h2⟩
    · exact congr (f := fun _ => some true) (fun k => if_neg (by rw [h0]; simp)) (const _)
    · have hi : impl_VersionParse.f kd a1 = match pkind kd (Lb a1) with
          | none => some (false, [], ⟨#[]⟩, ⟨#[]⟩, ⟨#[]⟩, 0, 0, 0)
          | some q => some (true, zs q.2.1, mk q.2.2.1, mk q.2.2.2, mk (vtxt q.2.1 q.2.2.1 q.2.2.2), (pt q.2.1 0 : Int), (pt q.2.1 1 : Int), (pt q.2.1 2 : Int)) := by
        unfold impl_VersionParse.f
        rw [if_pos (by omega)]; rfl
      cases hk : pkind kd (Lb a1) with
      | none =>
        rw [hk] at h2 hi
        have h2' : R.2.2.2.2.1 = false := h2
        refine congr (f := fun _ => some true) (fun k => ?_) (const _)
        rw [if_pos h1, hi]
        show (if R.2.2.2.2.1 = true then _ else some (!false)) = some true
        rw [if_neg (by rw [h2']; simp)]; rfl
      | some q =>
        rw [hk] at h2 hi
        have h2' : R = (zs q.2.1, q.1, mk q.2.2.1, mk q.2.2.2, true, true) := h2
        subst h2'
        obtain ⟨f1, f2, f3, f4, f5⟩ := pkind_fit hk
        have hsame := same_ev q.2.1 q.1 q.2.2.1 q.2.2.2 f3 (by omega) (by omega) (by omega)
        refine congr (f := fun k => (spec_SameVer.f k (zs q.2.1) q.1 (mk q.2.2.1) (mk q.2.2.2) true (zs q.2.1) (mk q.2.2.1) (mk q.2.2.2) (mk (vtxt q.2.1 q.2.2.1 q.2.2.2)) (pt q.2.1 0 : Int) (pt q.2.1 1 : Int) (pt q.2.1 2 : Int)).bind fun t248 => some t248) (fun k => ?_) (bindE hsame (const _))
        rw [if_pos rfl, hi]
        simp only [Option.bind_some, if_true]
end Go.Proofs.YtomoefldmgfaoaaDoor.Pv.SFnVersionParse
