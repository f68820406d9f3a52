/- The texts of a kind, and of a resource, tell group, version and name: of all texts (of those that the statement's bound lets by). -/
import Derived.Test.YtpaihcikeieliaaPFnKindTextsx1
import Derived.Test.YtpaihcikeieliaaTxt
set_option linter.unusedVariables false
set_option linter.unusedSimpArgs false
namespace Go.Proofs.Ytpaihcikeieliaa.Pure
open Go.RowKit Go.Proofs.Ytpaihcikeieliaa.PFnKindTexts Go.Proofs.YtpaihcikeieliaaW.PrintWords Go.Proofs.YtpaihcikeieliaaW.PrintLast Go.Proofs.Ytpaihcikeieliaa.Txt

theorem kt_kind (a b c : ByteArray) (ha : a.size ≤ 2147483647) (hb : b.size ≤ 2147483647) (hc : c.size ≤ 2147483647) : impl_KindText.f a b c = some ((((a ++ (⟨#[47]⟩ : ByteArray)) ++ b) ++ (⟨#[44, 32, 75, 105, 110, 100, 61]⟩ : ByteArray)) ++ c) := by
  unfold impl_KindText.f impl_kindOf.f schema_GroupVersionKind_String.f
  have z1 : (⟨#[47]⟩ : ByteArray).size = 1 := rfl
  have z2 : (⟨#[44, 32, 75, 105, 110, 100, 61]⟩ : ByteArray).size = 7 := rfl
  simp only [Option.bind_some, ByteArray.size_append, z1, z2]
  rw [if_pos (by omega), if_pos (by omega), if_pos (by omega), if_pos (by omega)]
  rfl

theorem kt_res (a b c : ByteArray) (ha : a.size ≤ 2147483647) (hb : b.size ≤ 2147483647) (hc : c.size ≤ 2147483647) : impl_ResourceText.f a b c = some ((((a ++ (⟨#[47]⟩ : ByteArray)) ++ b) ++ (⟨#[44, 32, 82, 101, 115, 111, 117, 114, 99, 101, 61]⟩ : ByteArray)) ++ c) := by
  unfold impl_ResourceText.f schema_GroupVersionResource_String.f
  rw [if_pos (by omega)]
  simp only [Option.bind_some]
  congr 1
  apply ext
  simp only [Lib.join, List.intercalate, List.intersperse, List.map, List.flatten_cons, List.flatten_nil, data_append, List.append_nil, List.nil_append, List.append_assoc]

theorem FnKindTexts : laws_FnKindTexts.Pure := by
  intro a b c _ _ _
  unfold laws_FnKindTexts.f laws_zzFits8.f
  by_cases ha : (a.size : Int) > 2147483647
  · rw [if_pos ha]; rfl
  · rw [if_neg ha]
    by_cases hb : (b.size : Int) > 2147483647
    · rw [if_pos hb]; rfl
    · rw [if_neg hb]
      by_cases hc : (c.size : Int) > 2147483647
      · rw [if_pos hc]; rfl
      · rw [if_neg hc, kt_kind a b c (by omega) (by omega) (by omega), kt_res a b c (by omega) (by omega) (by omega)]
        have z1 : (⟨#[47]⟩ : ByteArray).size = 1 := rfl
        have z2 : (⟨#[44, 32, 75, 105, 110, 100, 61]⟩ : ByteArray).size = 7 := rfl
        have z3 : (⟨#[44, 32, 82, 101, 115, 111, 117, 114, 99, 101, 61]⟩ : ByteArray).size = 11 := rfl
        simp only [Option.bind_some, ByteArray.size_append, z1, z2, z3, if_true]
        rw [if_pos (by omega), if_pos (by omega), if_pos (by omega), if_pos (by omega), if_pos (by omega), if_pos (by omega)]
        simp

end Go.Proofs.Ytpaihcikeieliaa.Pure
