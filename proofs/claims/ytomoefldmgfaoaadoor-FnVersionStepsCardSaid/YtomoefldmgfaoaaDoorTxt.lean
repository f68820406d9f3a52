/- Texts as lists of bytes: plain facts. -/
import Derived.Test.YtomoefldmgfaoaaDoorWWords
import Derived.Test.YtomoefldmgfaoaaDoorSmall
set_option linter.unusedVariables false
set_option linter.unusedSimpArgs false
namespace Go.Proofs.YtomoefldmgfaoaaDoor.Txt
open Go.RowKit Go.Proofs.YtomoefldmgfaoaaDoorW.PrintWords

theorem toList_loop (s : ByteArray) (n : Nat) : ∀ (i : Nat) (r : List UInt8), i + n = s.size → ByteArray.toList.loop s i r = r.reverse ++ s.data.toList.drop i := by
  induction n with
  | zero =>
    intro i r h
    rw [ByteArray.toList.loop, if_neg (by omega), List.drop_eq_nil_of_le (by rw [Array.length_toList]; show s.size ≤ i; omega), List.append_nil]
  | succ n ih =>
    intro i r h
    have hi : i < s.data.toList.length := by rw [Array.length_toList]; show i < s.size; omega
    have hg : s.get! i = s.data.toList[i] := by
      show s.data[i]! = _
      rw [getElem!_pos s.data i (by show i < s.size; omega)]; rfl
    rw [ByteArray.toList.loop, if_pos (by omega), ih (i + 1) _ (by omega), List.drop_eq_getElem_cons hi, hg]
    simp

/-- The compared bytes are the text's. -/
theorem toL (s : ByteArray) : s.toList = s.data.toList := by
  have := toList_loop s s.size 0 [] (by omega)
  unfold ByteArray.toList
  rw [this]; simp

theorem size_len (s : ByteArray) : s.size = s.data.toList.length := by rw [Array.length_toList]; rfl
theorem ext {s t : ByteArray} (h : s.data.toList = t.data.toList) : s = t := by
  apply ByteArray.ext; exact Array.toList_inj.1 h
theorem data_append (s t : ByteArray) : (s ++ t).data.toList = s.data.toList ++ t.data.toList := by rw [ByteArray.data_append, Array.toList_append]
theorem data_extract (s : ByteArray) (a b : Nat) : (s.extract a b).data.toList = (s.data.toList.drop a).take (b - a) := by
  rw [ByteArray.data_extract, Array.toList_extract]

theorem bt_nat (s : ByteArray) (i : Nat) (h : i < s.data.toList.length) : bt s (i : Int) = ((s.data.toList[i]).toNat : Int) := by
  have h' : i < s.size := by rw [size_len]; exact h
  unfold bt
  rw [Int.toNat_natCast, dif_pos h']; rfl

/-- The first place of a byte; the length, if there is none. -/
def plcN (c : UInt8) (l : List UInt8) : Nat := l.findIdx (· == c)
/-- The first place of a byte; -1, if there is none. -/
def plc (c : UInt8) (l : List UInt8) : Int := if plcN c l < l.length then plcN c l else -1

end Go.Proofs.YtomoefldmgfaoaaDoor.Txt
