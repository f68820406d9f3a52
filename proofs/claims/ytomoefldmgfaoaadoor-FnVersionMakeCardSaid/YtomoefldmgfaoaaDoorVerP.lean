/- Versions: the definitions of the reference, as plain functions. -/
import Derived.Test.YtomoefldmgfaoaaDoorPFnVersionMakex1
import Derived.Test.YtomoefldmgfaoaaDoorVerX
import Derived.Test.YtomoefldmgfaoaaDoorSmall
import Derived.Test.YtomoefldmgfaoaaDoorTxt
set_option linter.unusedVariables false
set_option linter.unusedSimpArgs false
namespace Go.Proofs.YtomoefldmgfaoaaDoor.Ver
open Go Go.RowKit Go.Proofs.YtomoefldmgfaoaaDoor Go.Proofs.YtomoefldmgfaoaaDoorW.PrintWords Go.Proofs.YtomoefldmgfaoaaDoor.PFnVersionMake Go.Proofs.YtomoefldmgfaoaaDoor.Txt

theorem dig_one (u : Nat) (h : u < 10) : strOfNums [((48 + u % 10 : Nat) : Int)] = dig u := by
  apply ext
  rw [dig_data, Lib.decDigits_one h, Nat.mod_eq_of_lt h]
  rfl
theorem dig_more (u : Nat) (h : ¬ u < 10) : dig (u / 10) ++ strOfNums [((48 + u % 10 : Nat) : Int)] = dig u := by
  apply ext
  rw [data_append, dig_data, dig_data, Lib.decDigits.eq_1 u, dif_neg h]
  rfl
theorem uint_f : ∀ (d u k : Nat), u < 10 ^ d → u < 18446744073709551616 → d ≤ k → 1 ≤ k → spec_VerUintText.f k (u : Int) = some (dig u) := by
  intro d
  induction d with
  | zero =>
    intro u k h hu hk h1
    obtain ⟨k, rfl⟩ : ∃ j, k = j + 1 := ⟨k - 1, by omega⟩
    have h0 : u = 0 := by simp at h; omega
    subst h0
    rw [spec_VerUintText.f]
    exact congrArg some (dig_one 0 (by omega))
  | succ d ih =>
    intro u k h hu hk h1
    obtain ⟨k, rfl⟩ : ∃ j, k = j + 1 := ⟨k - 1, by omega⟩
    have e1 : IntKind.u64.wrap (48 + Int.tmod (u : Int) 10) % 256 = ((48 + u % 10 : Nat) : Int) := by
      rw [IntKind.wrap_u64, show Int.tmod (u : Int) 10 = ((u % 10 : Nat) : Int) from rfl]; omega
    have e2 : IntKind.u64.wrap (Int.tdiv (u : Int) 10) = ((u / 10 : Nat) : Int) := by
      rw [IntKind.wrap_u64, show Int.tdiv (u : Int) 10 = ((u / 10 : Nat) : Int) from rfl]; omega
    rw [spec_VerUintText.f, e1, Option.bind_some]
    by_cases hs : u < 10
    · rw [if_pos (by omega), dig_one u hs]
    · rw [if_neg (by omega), e2, ih (u / 10) k (by rw [Nat.pow_succ] at h; omega) (by omega) (by
        rcases d with _ | d
        · simp at h; omega
        · omega) (by rcases d with _ | d
                     · simp at h; omega
                     · omega), Option.bind_some, dig_more u hs]
      have s1 := dig_size (u / 10) (by omega)
      have s2 : (strOfNums [((48 + u % 10 : Nat) : Int)]).size = 1 := rfl
      rw [if_pos (by omega)]
theorem text_f (a m k : Nat) (ha : a < 18446744073709551616) (hm : m < 18446744073709551616) (hk : 30 ≤ k) : spec_Version_Text.f k [(a : Int), (m : Int)] false ⟨#[]⟩ ⟨#[]⟩ = some (txt a m) := by
  obtain ⟨k, rfl⟩ : ∃ j, k = j + 1 + 1 + 1 := ⟨k - 3, by omega⟩
  have s1 := dig_size a ha
  have s2 := dig_size m hm
  have ra : rd [(a : Int), (m : Int)] 0 = (a : Int) := rfl
  have rm : rd [(a : Int), (m : Int)] 1 = (m : Int) := rfl
  have f1 := uint_f 20 a (k + 1 + 1) (by omega) ha (by omega) (by omega)
  have f2 := uint_f 20 m (k + 1) (by omega) hm (by omega) (by omega)
  have w1 : wrap64 (0 + 1) = 1 := IntWalk.wrap64_in _ ⟨by omega, by omega⟩
  have w2 : wrap64 (1 + 1) = 2 := IntWalk.wrap64_in _ ⟨by omega, by omega⟩
  have z0 : ((⟨#[]⟩ : ByteArray) ++ dig a) = dig a := by apply ext; rw [data_append]; rfl
  have z1 : (dig a ++ ⟨#[46]⟩ : ByteArray) ++ dig m = txt a m := by apply ext; rw [data_append, data_append]; unfold txt; simp [dig]
  have l2 : (([(a : Int), (m : Int)] : List Int).length : Int) = 2 := rfl
  unfold spec_Version_Text.f
  rw [spec_Version_Text.l0, l2, if_pos (by omega), if_neg (by omega), if_pos (by omega), ra, f1, Option.bind_some, if_pos (by show 0 + _ ≤ _; omega), z0, w1]
  rw [spec_Version_Text.l0, l2, if_pos (by omega), if_pos (by omega), if_pos (by omega), if_pos (by omega), rm, f2, Option.bind_some, if_pos (by rw [ByteArray.size_append]; show _ + 1 + _ ≤ _; omega), z1, w2]
  rw [spec_Version_Text.l0, l2, if_neg (by omega), if_pos (by rw [toL]), if_pos (by rw [toL])]
end Go.Proofs.YtomoefldmgfaoaaDoor.Ver
