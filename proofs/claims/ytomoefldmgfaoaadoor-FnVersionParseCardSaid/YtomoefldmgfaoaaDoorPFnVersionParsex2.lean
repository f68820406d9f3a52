/- Functions of the program as plain Lean functions, and that the machine's calls do what these say: written for this claim by wip/myprint.py over the kit's print.py. -/
import Derived.Test.YtomoefldmgfaoaaDoorPFnVersionParsex0
import Derived.Test.YtomoefldmgfaoaaDoorPFnVersionParsex1
namespace Go.Proofs.YtomoefldmgfaoaaDoor.PFnVersionParse
open Go.RowKit Go.Proofs.YtomoefldmgfaoaaDoorW.PrintWords Go.Proofs.YtomoefldmgfaoaaDoorW.PrintLast Go.Proofs.YtomoefldmgfaoaaDoorW.PrintMore
attribute [local go_sem] max2_int min2_int max_two min_two max_three min_three max_four min_four   -- for this text's walks alone
set_option linter.unusedVariables false
set_option linter.unusedSimpArgs false

abbrev mBits0 : Array Bool := #[false, false, false, false, false, false, false, false, false, false, false, false, false, false, false, false, false, false, false, false, false, false, false, false, false, false, false, false, false, false, false, false, false, false, false, false, false, false, false, false, false, false, false, false, false, false, false]
abbrev mBits1 : Array Bool := #[false, false, false, false, false, false, false, false, false, false, false, false, false, false, false, false, false]
abbrev mBits2 : Array Bool := #[true, false, false, false, false, false, false, false, false, false, false, false, false, false, false, false, false, false, false, false, false, false, false, false, false, false, false, false, false, false, false, false, false, false, false, false, false, false, false, false, false, false, false, false, false, false, false]
abbrev mBits3 : Array Bool := #[true, false, false, false, false, false, false, false, false, false, false, false, false, false, false, false, false]
abbrev mBits4 : Array Bool := #[true, true, false, false, false, false, false, false, false, false, false, false, false, false, false, false, false, false, false, false, false, false, false, false, false, false, false, false, false, false, false, false, false, false, false, false, false, false, false, false, false, false, false, false, false, false, false]
abbrev mBits5 : Array Bool := #[true, true, false, false, false, false, false, false, false, false, false, false, false, false, false, false, false]
abbrev mBits6 : Array Bool := #[true, true, true, false, false, false, false, false, false, false, false, false, false, false, false, false, false, false, false, false, false, false, false, false, false, false, false, false, false, false, false, false, false, false, false, false, false, false, false, false, false, false, false, false, false, false, false]
abbrev mBits7 : Array Bool := #[true, true, true, false, false, false, false, false, false, false, false, false, false, false, false, false, false]
abbrev mBits8 : Array Bool := #[true, true, true, true, false, false, false, false, false, false, false, false, false, false, false, false, false, false, false, false, false, false, false, false, false, false, false, false, false, false, false, false, false, false, false, false, false, false, false, false, false, false, false, false, false, false, false]
abbrev mBits9 : Array Bool := #[true, true, true, true, false, false, false, false, false, false, false, false, false, false, false, false, false]
abbrev mBits10 : Array Bool := #[true, true, true, true, true, false, false, false, false, false, false, false, false, false, false, false, false, false, false, false, false, false, false, false, false, false, false, false, false, false, false, false, false, false, false, false, false, false, false, false, false, false, false, false, false, false, false]
abbrev mBits11 : Array Bool := #[true, true, true, true, true, false, false, false, false, false, false, false, false, false, false, false, false]
abbrev mBits12 : Array Bool := #[true, true, true, true, true, false, false, true, false, false, false, false, false, false, false, false, false, false, false, false, false, false, false, false, false, false, false, false, false, false, false, false, false, false, false, false, false, false, false, false, false, false, false, false, false, false, false]
abbrev mBits14 : Array Bool := #[true, true, true, true, true, true, false, false, false, false, false, false, false, false, false, false, false]
abbrev mBits15 : Array Bool := #[true, true, true, true, true, true, false, true, false, false, false, false, false, false, false, false, false, false, false, false, false, false, false, false, false, false, false, false, false, false, false, false, false, false, false, false, false, false, false, false, false, false, false, false, false, false, false]
abbrev mBits17 : Array Bool := #[true, true, true, true, true, true, true, false, false, false, false, false, false, false, false, false, false]
abbrev mBits18 : Array Bool := #[true, true, true, true, true, true, true, true, false, false, false, false, false, false, false, false, false, false, false, false, false, false, false, false, false, false, false, false, false, false, false, false, false, false, false, false, false, false, false, false, false, false, false, false, false, false, false]
abbrev mBits19 : Array Bool := #[true, true, true, true, true, true, true, true, false, false, false, false, false, false, false, false, false]
abbrev mBits20 : Array Bool := #[true, true, true, true, true, true, true, true, true, false, false, false, false, false, false, false, false, false, false, false, false, false, false, false, false, false, false, false, false, false, false, false, false, false, false, false, false, false, false, false, false, false, false, false, false, false, false]
abbrev mBits21 : Array Bool := #[true, true, true, true, true, true, true, true, true, false, false, false, false, false, false, false, false]
abbrev mBits22 : Array Bool := #[true, true, true, true, true, true, true, true, true, true, false, false, false, false, false, false, false, false, false, false, false, false, false, false, false, false, false, false, false, false, false, false, false, false, false, false, false, false, false, false, false, false, false, false, false, false, false]
abbrev mBits23 : Array Bool := #[true, true, true, true, true, true, true, true, true, true, false, false, false, false, false, false, false]
abbrev mBits24 : Array Bool := #[true, true, true, true, true, true, true, true, true, true, true, false, false, false, false, false, false, false, false, false, false, false, false, false, false, false, false, false, false, false, false, false, false, false, false, false, false, false, false, false, false, false, false, false, false, false, false]
abbrev mBits25 : Array Bool := #[true, true, true, true, true, true, true, true, true, true, true, false, false, false, false, false, false]
abbrev mBits26 : Array Bool := #[true, true, true, true, true, true, true, true, true, true, true, true, false, false, false, false, false, false, false, false, false, false, false, false, false, false, false, false, false, false, false, false, false, false, false, false, false, false, false, false, false, false, false, false, false, false, false]
abbrev mBits27 : Array Bool := #[true, true, true, true, true, true, true, true, true, true, true, true, false, false, false, false, false]
abbrev mBits28 : Array Bool := #[true, true, true, true, true, true, true, true, true, true, true, true, true, false, false, false, false, false, false, false, false, false, false, false, false, false, false, false, false, false, false, false, false, false, false, false, false, false, false, false, false, false, false, false, false, false, false]
abbrev mBits29 : Array Bool := #[true, true, true, true, true, true, true, true, true, true, true, true, true, false, false, false, false]
abbrev mBits30 : Array Bool := #[true, true, true, true, true, true, true, true, true, true, true, true, true, true, false, false, false, false, false, false, false, false, false, false, false, false, false, false, false, false, false, false, false, false, false, false, false, false, false, false, false, false, false, false, false, false, false]
abbrev mBits31 : Array Bool := #[true, true, true, true, true, true, true, true, true, true, true, true, true, true, false, false, false]
abbrev mBits32 : Array Bool := #[true, true, true, true, true, true, true, true, true, true, true, true, true, true, false, true, false, false, false, false, false, false, false, false, false, false, false, false, false, false, false, false, false, false, false, false, false, false, false, false, false, false, false, false, false, false, false]
abbrev mBits33 : Array Bool := #[true, true, true, true, true, true, true, true, true, true, true, true, true, true, true, false, false, false, false, false, false, false, false, false, false, false, false, false, false, false, false, false, false, false, false, false, false, false, false, false, false, false, false, false, false, false, false]
abbrev mBits34 : Array Bool := #[true, true, true, true, true, true, true, true, true, true, true, true, true, true, true, false, false]
abbrev mBits35 : Array Bool := #[true, true, true, true, true, true, true, true, true, true, true, true, true, true, true, true, false, false, false, false, false, false, false, false, false, false, false, false, false, false, false, false, false, false, false, false, false, false, false, false, false, false, false, false, false, false, false]
abbrev mBits36 : Array Bool := #[true, true, true, true, true, true, true, true, true, true, true, true, true, true, true, true, false]
abbrev mBits37 : Array Bool := #[true, true, true, true, true, true, true, true, true, true, true, true, true, true, true, true, true, false, false, false, false, false, false, false, false, false, false, false, false, false, false, false, false, false, false, false, false, false, false, false, false, false, false, false, false, false, false]
abbrev mBits38 : Array Bool := #[true, true, true, true, true, true, true, true, true, true, true, true, true, true, true, true, true, true, false, false, false, false, false, false, false, false, false, false, false, false, false, false, false, false, false, false, false, false, false, false, false, false, false, false, false, false, false]
abbrev mBits39 : Array Bool := #[true, true, true, true, true, true, true, true, true, true, true, true, true, true, true, true, true, true, true, false, false, false, false, false, false, false, false, false, false, false, false, false, false, false, false, false, false, false, false, false, false, false, false, false, false, false, false]
abbrev mBits40 : Array Bool := #[true, true, true, true, true, true, true, true, true, true, true, true, true, true, true, true, true, true, true, true, false, false, false, false, false, false, false, false, false, false, false, false, false, false, false, false, false, false, false, false, false, false, false, false, false, false, false]
abbrev mBits41 : Array Bool := #[true, true, true, true, true, true, true, true, true, true, true, true, true, true, true, true, true, true, true, true, true, false, false, false, false, false, false, false, false, false, false, false, false, false, false, false, false, false, false, false, false, false, false, false, false, false, false]
abbrev mBits42 : Array Bool := #[true, true, true, true, true, true, true, true, true, true, true, true, true, true, true, true, true, true, true, true, true, false, true, false, false, false, false, false, false, false, false, false, false, false, false, false, false, false, false, false, false, false, false, false, false, false, false]
abbrev mBits43 : Array Bool := #[true, true, true, true, true, true, true, true, true, true, true, true, true, true, true, true, true, true, true, true, true, true, false, false, false, false, false, false, false, false, false, false, false, false, false, false, false, false, false, false, false, false, false, false, false, false, false]
abbrev mBits44 : Array Bool := #[true, true, true, true, true, true, true, true, true, true, true, true, true, true, true, true, true, true, true, true, true, true, true, false, false, false, false, false, false, false, false, false, false, false, false, false, false, false, false, false, false, false, false, false, false, false, false]
abbrev mBits45 : Array Bool := #[true, true, true, true, true, true, true, true, true, true, true, true, true, true, true, true, true, true, true, true, true, true, true, true, false, false, false, false, false, false, false, false, false, false, false, false, false, false, false, false, false, false, false, false, false, false, false]
abbrev mBits46 : Array Bool := #[true, true, true, true, true, true, true, true, true, true, true, true, true, true, true, true, true, true, true, true, true, true, true, true, true, false, false, false, false, false, false, false, false, false, false, false, false, false, false, false, false, false, false, false, false, false, false]
abbrev mBits47 : Array Bool := #[true, true, true, true, true, true, true, true, true, true, true, true, true, true, true, true, true, true, true, true, true, true, true, true, true, true, false, false, false, false, false, false, false, false, false, false, false, false, false, false, false, false, false, false, false, false, false]
abbrev mBits48 : Array Bool := #[true, true, true, true, true, true, true, true, true, true, true, true, true, true, true, true, true, true, true, true, true, true, true, true, true, true, true, false, false, false, false, false, false, false, false, false, false, false, false, false, false, false, false, false, false, false, false]
abbrev mBits49 : Array Bool := #[true, true, true, true, true, true, true, true, true, true, true, true, true, true, true, true, true, true, true, true, true, true, true, true, true, true, true, true, false, false, false, false, false, false, false, false, false, false, false, false, false, false, false, false, false, false, false]
abbrev mBits50 : Array Bool := #[true, true, true, true, true, true, true, true, true, true, true, true, true, true, true, true, true, true, true, true, true, true, true, true, true, true, true, true, true, false, false, false, false, false, false, false, false, false, false, false, false, false, false, false, false, false, false]
abbrev mBits51 : Array Bool := #[true, true, true, true, true, true, true, true, true, true, true, true, true, true, true, true, true, true, true, true, true, true, true, true, true, true, true, true, true, true, false, false, false, false, false, false, false, false, false, false, false, false, false, false, false, false, false]
abbrev mBits52 : Array Bool := #[true, true, true, true, true, true, true, true, true, true, true, true, true, true, true, true, true, true, true, true, true, true, true, true, true, true, true, true, true, true, true, false, false, false, false, false, false, false, false, false, false, false, false, false, false, false, false]
abbrev mBits53 : Array Bool := #[true, true, true, true, true, true, true, true, true, true, true, true, true, true, true, true, true, true, true, true, true, true, true, true, true, true, true, true, true, true, true, true, false, false, false, false, false, false, false, false, false, false, false, false, false, false, false]
abbrev mBits54 : Array Bool := #[true, true, true, true, true, true, true, true, true, true, true, true, true, true, true, true, true, true, true, true, true, true, true, true, true, true, true, true, true, true, true, true, true, false, false, false, false, false, false, false, false, false, false, false, false, false, false]
abbrev mBits55 : Array Bool := #[true, true, true, true, true, true, true, true, true, true, true, true, true, true, true, true, true, true, true, true, true, true, true, true, true, true, true, true, true, true, true, true, true, true, false, false, false, false, false, false, false, false, false, false, false, false, false]
abbrev mBits56 : Array Bool := #[true, true, true, true, true, true, true, true, true, true, true, true, true, true, true, true, true, true, true, true, true, true, true, true, true, true, true, true, true, true, true, true, true, true, true, false, false, false, false, false, false, false, false, false, false, false, false]
abbrev mBits57 : Array Bool := #[true, true, true, true, true, true, true, true, true, true, true, true, true, true, true, true, true, true, true, true, true, true, true, true, true, true, true, true, true, true, true, true, true, true, true, true, false, false, false, false, false, false, false, false, false, false, false]
abbrev mBits58 : Array Bool := #[true, true, true, true, true, true, true, true, true, true, true, true, true, true, true, true, true, true, true, true, true, true, true, true, true, true, true, true, true, true, true, true, true, true, true, true, true, false, false, false, false, false, false, false, false, false, false]
abbrev mBits59 : Array Bool := #[true, true, true, true, true, true, true, true, true, true, true, true, true, true, true, true, true, true, true, true, true, true, true, true, true, true, true, true, true, true, true, true, true, true, true, true, true, true, false, false, false, false, false, false, false, false, false]
abbrev mBits60 : Array Bool := #[true, true, true, true, true, true, true, true, true, true, true, true, true, true, true, true, true, true, true, true, true, true, true, true, true, true, true, true, true, true, true, true, true, true, true, true, true, true, true, false, false, false, false, false, false, false, false]
abbrev mBits61 : Array Bool := #[true, true, true, true, true, true, true, true, true, true, true, true, true, true, true, true, true, true, true, true, true, true, true, true, true, true, true, true, true, true, true, true, true, true, true, true, true, true, true, true, false, false, false, false, false, false, false]
abbrev mBits62 : Array Bool := #[true, true, true, true, true, true, true, true, true, true, true, true, true, true, true, true, true, true, true, true, true, true, true, true, true, true, true, true, true, true, true, true, true, true, true, true, true, true, true, true, true, false, false, false, false, false, false]
abbrev mBits63 : Array Bool := #[true, true, true, true, true, true, true, true, true, true, true, true, true, true, true, true, true, true, true, true, true, true, true, true, true, true, true, true, true, true, true, true, true, true, true, true, true, true, true, true, true, true, false, false, false, false, false]
abbrev mBits64 : Array Bool := #[true, true, true, true, true, true, true, true, true, true, true, true, true, true, true, true, true, true, true, true, true, true, true, true, true, true, true, true, true, true, true, true, true, true, true, true, true, true, true, true, true, true, true, false, false, false, false]
abbrev mBits65 : Array Bool := #[true, true, true, true, true, true, true, true, true, true, true, true, true, true, true, true, true, true, true, true, true, true, true, true, true, true, true, true, true, true, true, true, true, true, true, true, true, true, true, true, true, true, true, true, false, false, false]
abbrev mBits66 : Array Bool := #[true, true, true, true, true, true, true, true, true, true, true, true, true, true, true, true, true, true, true, true, true, true, true, true, true, true, true, true, true, true, true, true, true, true, true, true, true, true, true, true, true, true, true, true, true, false, false]
abbrev mBits67 : Array Bool := #[true, true, true, true, true, true, true, true, true, true, true, true, true, true, true, true, true, true, true, true, true, true, true, true, true, true, true, true, true, true, true, true, true, true, true, true, true, true, true, true, true, true, true, true, true, true, false]
abbrev mBits68 : Array Bool := #[true, true, true, true, true, true, true, true, true, true, true, true, true, true, true, true, true, true, true, true, true, true, true, true, true, true, true, true, true, true, true, true, true, true, true, true, true, true, true, true, true, true, true, true, true, true, true]
abbrev mBits69 : Array Bool := #[true, true, true, true, true, true, true, true, true, true, true, true, true, true, true, true, true]
/-! ### spec_SameVer: function 9 -/
mutual
def spec_SameVer.j0 : Nat → Bool → List Int → Bool → ByteArray → ByteArray → Bool → List Int → ByteArray → ByteArray → ByteArray → Int → Int → Int → Option (Bool)
 | 0, _, _, _, _, _, _, _, _, _, _, _, _, _ => none
 | k + 1, x52, x113000, x113001, x113002, x113003, x114000, x114001, x114002, x114003, x114004, x114005, x114006, x114007 => if x52 = true then (some false) else (spec_SameVer.l0 k 0 x113000 x113001 x113002 x113003 x114000 x114001 x114002 x114003 x114004 x114005 x114006 x114007)
def spec_SameVer.l0 : Nat → Int → List Int → Bool → ByteArray → ByteArray → Bool → List Int → ByteArray → ByteArray → ByteArray → Int → Int → Int → Option (Bool)
 | 0, _, _, _, _, _, _, _, _, _, _, _, _, _ => none
 | k + 1, x5, x113000, x113001, x113002, x113003, x114000, x114001, x114002, x114003, x114004, x114005, x114006, x114007 => if x5 < (x113000.length : Int) then (if 0 ≤ x5 then (if x5 < (x114001.length : Int) then (if (rd x114001 x5) = (rd x113000 x5) then (spec_SameVer.l0 k (wrap64 (x5 + 1)) x113000 x113001 x113002 x113003 x114000 x114001 x114002 x114003 x114004 x114005 x114006 x114007) else (some false)) else (none)) else (none)) else (if x113001 = true then ((spec_Version_part.f x113000 x113001 x113002 x113003 2).bind fun t119 => (some (x114007 == t119))) else (if (x113000.length : Int) > 2 then (some true) else ((spec_Version_part.f x113000 x113001 x113002 x113003 2).bind fun t120 => (some (x114007 == t120)))))
end
def spec_SameVer.f (k : Nat) (l0_0 : List Int) (a0_1 : Bool) (a0_2 : ByteArray) (a0_3 : ByteArray) (a1_0 : Bool) (l1_1 : List Int) (a1_2 : ByteArray) (a1_3 : ByteArray) (a1_4 : ByteArray) (a1_5 : Int) (a1_6 : Int) (a1_7 : Int) : Option (Bool) := if a1_0 = true then (if (l1_1.length : Int) = (l0_0.length : Int) then (if a1_2.toList = a0_2.toList then (if a1_3.toList = a0_3.toList then ((spec_Version_Text.f k l0_0 a0_1 a0_2 a0_3).bind fun t114 => (if a1_4.toList = t114.toList then ((spec_Version_part.f l0_0 a0_1 a0_2 a0_3 0).bind fun t115 => (if a1_5 = t115 then ((spec_Version_part.f l0_0 a0_1 a0_2 a0_3 1).bind fun t116 => (spec_SameVer.j0 k (a1_6 != t116) l0_0 a0_1 a0_2 a0_3 a1_0 l1_1 a1_2 a1_3 a1_4 a1_5 a1_6 a1_7)) else (none))) else (none))) else (none)) else (none)) else (none)) else (none)
theorem spec_SameVer.mono_l : ∀ k, (∀ y0 y1 y2 y3 y4 y5 y6 y7 y8 y9 y10 y11 y12, LeO (spec_SameVer.j0 k y0 y1 y2 y3 y4 y5 y6 y7 y8 y9 y10 y11 y12) (spec_SameVer.j0 (k + 1) y0 y1 y2 y3 y4 y5 y6 y7 y8 y9 y10 y11 y12)) ∧ (∀ y0 y1 y2 y3 y4 y5 y6 y7 y8 y9 y10 y11 y12, LeO (spec_SameVer.l0 k y0 y1 y2 y3 y4 y5 y6 y7 y8 y9 y10 y11 y12) (spec_SameVer.l0 (k + 1) y0 y1 y2 y3 y4 y5 y6 y7 y8 y9 y10 y11 y12))
 | 0 => ⟨fun _ _ _ _ _ _ _ _ _ _ _ _ _ r h => by simp [spec_SameVer.j0] at h, fun _ _ _ _ _ _ _ _ _ _ _ _ _ r h => by simp [spec_SameVer.l0] at h⟩
 | k + 1 => by
  obtain ⟨ih0, ih1⟩ := spec_SameVer.mono_l k
  refine ⟨?_, ?_⟩
  ·
   intro y0 y1 y2 y3 y4 y5 y6 y7 y8 y9 y10 y11 y12
   unfold spec_SameVer.j0
   repeat' first
   | (with_reducible exact ih0 _ _ _ _ _ _ _ _ _ _ _ _ _)
   | (with_reducible exact ih1 _ _ _ _ _ _ _ _ _ _ _ _ _)
   | (with_reducible exact spec_Version_Text.mono _ _ _ _ _)
   | (with_reducible exact LeO.refl _)
   | (with_reducible exact LeO.none _)
   | (with_reducible refine LeO.ite ?_ ?_)
   | (with_reducible refine LeO.bind ?_ (fun _ => ?_))
   | exact ih0 _ _ _ _ _ _ _ _ _ _ _ _ _
   | exact ih1 _ _ _ _ _ _ _ _ _ _ _ _ _
   | exact spec_Version_Text.mono _ _ _ _ _
   | exact LeO.none _
   | refine LeO.ite ?_ ?_
   | refine LeO.bind ?_ (fun _ => ?_)
  ·
   intro y0 y1 y2 y3 y4 y5 y6 y7 y8 y9 y10 y11 y12
   unfold spec_SameVer.l0
   repeat' first
   | (with_reducible exact ih0 _ _ _ _ _ _ _ _ _ _ _ _ _)
   | (with_reducible exact ih1 _ _ _ _ _ _ _ _ _ _ _ _ _)
   | (with_reducible exact spec_Version_Text.mono _ _ _ _ _)
   | (with_reducible exact LeO.refl _)
   | (with_reducible exact LeO.none _)
   | (with_reducible refine LeO.ite ?_ ?_)
   | (with_reducible refine LeO.bind ?_ (fun _ => ?_))
   | exact ih0 _ _ _ _ _ _ _ _ _ _ _ _ _
   | exact ih1 _ _ _ _ _ _ _ _ _ _ _ _ _
   | exact spec_Version_Text.mono _ _ _ _ _
   | exact LeO.none _
   | refine LeO.ite ?_ ?_
   | refine LeO.bind ?_ (fun _ => ?_)
theorem spec_SameVer.mono : ∀ a0 a1 a2 a3 a4 a5 a6 a7 a8 a9 a10 a11 k, LeO (spec_SameVer.f k a0 a1 a2 a3 a4 a5 a6 a7 a8 a9 a10 a11) (spec_SameVer.f (k + 1) a0 a1 a2 a3 a4 a5 a6 a7 a8 a9 a10 a11) := by
 intro a0 a1 a2 a3 a4 a5 a6 a7 a8 a9 a10 a11 k
 obtain ⟨ih0, ih1⟩ := spec_SameVer.mono_l k
 unfold spec_SameVer.f
 repeat' first
   | (with_reducible exact ih0 _ _ _ _ _ _ _ _ _ _ _ _ _)
   | (with_reducible exact ih1 _ _ _ _ _ _ _ _ _ _ _ _ _)
   | (with_reducible exact spec_Version_Text.mono _ _ _ _ _)
   | (with_reducible exact LeO.refl _)
   | (with_reducible exact LeO.none _)
   | (with_reducible refine LeO.ite ?_ ?_)
   | (with_reducible refine LeO.bind ?_ (fun _ => ?_))
   | exact ih0 _ _ _ _ _ _ _ _ _ _ _ _ _
   | exact ih1 _ _ _ _ _ _ _ _ _ _ _ _ _
   | exact spec_Version_Text.mono _ _ _ _ _
   | exact LeO.none _
   | refine LeO.ite ?_ ?_
   | refine LeO.bind ?_ (fun _ => ?_)
def spec_SameVer.T1 : Bool × List (List Nat × List Nat) := (true, [([], []), ([0], [0]), ([1], [1]), ([2], [2]), ([3], [3]), ([4, 3], [3, 4]), ([5, 3], [3, 5]), ([3], [3]), ([7, 3], [3, 7]), ([8, 3], [3, 8]), ([6, 9, 3], [3, 6, 9]), ([3, 10], [3, 10]), ([11, 3], [11]), ([12], [12]), ([13, 12], [12, 13]), ([12], [12]), ([15, 12], [12, 15]), ([14, 16, 12], [12, 14, 16]), ([12, 17], [12, 17]), ([18, 12], [18]), ([19], [19]), ([20, 19], [19, 20]), ([19], [19]), ([22, 19], [19, 22]), ([21, 23, 19], [19, 21, 23]), ([19, 24], [19, 24]), ([25, 19], [25]), ([26], [26]), ([27, 26], [26, 27]), ([26], [26]), ([29, 26, 26], [26, 29]), ([28, 30, 26], [26, 28, 30]), ([26, 31], [26, 31]), ([32, 30], [32]), ([33], [33]), ([34, 33], [33, 34]), ([33], [33]), ([36, 33, 33], [33, 36]), ([35, 37, 33], [33, 35, 37]), ([33, 38], [33, 38]), ([39, 37], [39]), ([40], [40]), ([41, 40], [40, 41]), ([40], [40]), ([43, 40, 40], [40, 43]), ([42, 44, 40], [40, 42, 44]), ([40, 45], [40, 45])])
def spec_SameVer.B1 : List Nat := [0, 1, 3, 7, 15, 31, 63, 15, 143, 399, 1023, 2047, 4095, 8191, 16383, 8191, 40959, 131071, 262143, 524287, 1048575, 2097151, 1048575, 5242879, 16777215, 33554431, 67108863, 134217727, 268435455, 134217727, 671088639, 2147483647, 4294967295, 8589934591, 17179869183, 34359738367, 17179869183, 85899345919, 274877906943, 549755813887, 1099511627775, 2199023255551, 4398046511103, 2199023255551, 10995116277759, 35184372088831, 70368744177663]
theorem spec_SameVer.tab1 : rtab .any (opsOf Tryd.f9 1) = spec_SameVer.T1 := by kernel_rfl
theorem spec_SameVer.bits1 : waitsOk spec_SameVer.T1.2 spec_SameVer.B1 = true := by kernel_rfl
def spec_SameVer.T6 : Bool × List (List Nat × List Nat) := (true, [([], []), ([0], [0]), ([], []), ([1, 2], [1, 2]), ([3], [3]), ([], []), ([5], [5]), ([], []), ([6, 7], [6, 7]), ([8], [8]), ([4, 9], [4, 9])])
def spec_SameVer.B6 : List Nat := [0, 1, 0, 7, 15, 0, 32, 0, 224, 480, 1023]
theorem spec_SameVer.tab6 : rtab .any (opsOf Tryd.f9 6) = spec_SameVer.T6 := by kernel_rfl
theorem spec_SameVer.bits6 : waitsOk spec_SameVer.T6.2 spec_SameVer.B6 = true := by kernel_rfl
def spec_SameVer.T8 : Bool × List (List Nat × List Nat) := (true, [([], []), ([0], [0]), ([1], [1]), ([2], [2]), ([3], [3]), ([4, 3], [3, 4]), ([5, 3], [3, 5]), ([6, 3], [3, 6]), ([3, 7], [3, 7]), ([8, 3], [8]), ([9], [9]), ([10, 9], [9, 10]), ([9], [9]), ([12, 9, 9], [9, 12]), ([11, 13, 9], [9, 11, 13]), ([9, 14], [9, 14]), ([15, 13, 0, 1, 2, 3, 4, 5, 6, 7, 8, 9, 10, 11, 12, 13, 14, 15], [15])])
def spec_SameVer.B8 : List Nat := [0, 1, 3, 7, 15, 31, 63, 127, 255, 511, 1023, 2047, 1023, 5119, 16383, 32767, 65535]
theorem spec_SameVer.tab8 : rtab .any (opsOf Tryd.f9 8) = spec_SameVer.T8 := by kernel_rfl
theorem spec_SameVer.bits8 : waitsOk spec_SameVer.T8.2 spec_SameVer.B8 = true := by kernel_rfl
set_option maxHeartbeats 8000000 in
set_option maxRecDepth 100000 in
theorem spec_SameVer.calls (k : Nat) (A0_0 : Option Addr) (c0_0 : Nat) (l0_0 : List Int) (a0_1 : Bool) (a0_2 : ByteArray) (a0_3 : ByteArray) (a1_0 : Bool) (A1_1 : Option Addr) (c1_1 : Nat) (l1_1 : List Int) (a1_2 : ByteArray) (a1_3 : ByteArray) (a1_4 : ByteArray) (a1_5 : Int) (a1_6 : Int) (a1_7 : Int) (r : Bool) (w : World) (hr0_0 : Kd.C (Kd.int .u64) w A0_0 l0_0.length l0_0) (hc0_0 : l0_0.length ≤ c0_0) (hr1_1 : Kd.C (Kd.int .u64) w A1_1 l1_1.length l1_1) (hc1_1 : l1_1.length ≤ c1_1) (h : spec_SameVer.f k l0_0 a0_1 a0_2 a0_3 a1_0 l1_1 a1_2 a1_3 a1_4 a1_5 a1_6 a1_7 = some r) :
  Calls Tryd.prog 9 #[.agg #[.slice A0_0 l0_0.length c0_0, .bool a0_1, .string a0_2, .string a0_3], .agg #[.bool a1_0, .slice A1_1 l1_1.length c1_1, .string a1_2, .string a1_3, .string a1_4, .int .u64 a1_5, .int .u64 a1_6, .int .u64 a1_7]] w fun e w' => e = .returned (.bool r) ∧ Below w.heap.size w w' := by
 have hu26 := Tryd.underlying26
 have hu28 := Tryd.underlying28
 have HR0_0 := aM_ hr0_0
 have HC0_0 := aM_ hc0_0
 clear hr0_0 hc0_0
 have HR1_1 := aM_ hr1_1
 have HC1_1 := aM_ hc1_1
 clear hr1_1 hc1_1
 have HB := aM_ (Below.refl w.heap.size w)
 have H : (if a1_0 = true then (if (l1_1.length : Int) = (l0_0.length : Int) then (if a1_2.toList = a0_2.toList then (if a1_3.toList = a0_3.toList then ((spec_Version_Text.f k l0_0 a0_1 a0_2 a0_3).bind fun t114 => (if a1_4.toList = t114.toList then ((spec_Version_part.f l0_0 a0_1 a0_2 a0_3 0).bind fun t115 => (if a1_5 = t115 then ((spec_Version_part.f l0_0 a0_1 a0_2 a0_3 1).bind fun t116 => (spec_SameVer.j0 k (a1_6 != t116) l0_0 a0_1 a0_2 a0_3 a1_0 l1_1 a1_2 a1_3 a1_4 a1_5 a1_6 a1_7)) else (none))) else (none))) else (none)) else (none)) else (none)) else (none)) = some r := h
 clear h
 have HC3 := aM_ H
 clear H
 go_enter Tryd.func9, Tryd.ntmps9
 go_upto_region 1 with (first | ((with_reducible refine gate_dst (N := 2) rfl ?_); (try (refine gate_guard (by rfl) ?_; dsimp only)); refine box_event ?hg (N := 2) ?hd (cs := #[.slice A0_0 l0_0.length c0_0, .bool a0_1, .string a0_2, .string a0_3]) (t := 26) ?hr ?_; (case hd => rfl); (case hg => rfl); (case hr => first | (go_simp; done) | (go_simp; rfl)); intro gb112 hg w4 hbox hb; have n0_ := aM_ (below_step (by repeat (first | (with_reducible first | exact HB.out | apply bB_ | apply wN_ | apply bE_) | exact HB.out)) hb); have n1_ := aM_ (hbox); have n2_ := aM_ ((by rw [hg]; exact (below_size (by repeat (first | (with_reducible first | exact HB.out | apply bB_ | apply wN_ | apply bE_) | exact HB.out))) : w.heap.size ≤ gb112)); have n3_ := aM_ ((by rw [hg]; exact (below_size (by repeat (first | (with_reducible first | exact HB.out | apply bB_ | apply wN_ | apply bE_) | exact HB.out))) : w.heap.size ≤ gb112)); clear HB; have HB := n0_; have BK112 := n1_; have GW112 := n2_; have GE112 := n3_; clear n0_ n1_ n2_ n3_; clear hb hbox hg) | ((with_reducible refine gate_dst (N := 3) rfl ?_); (try (refine gate_guard (by rfl) ?_; dsimp only)); refine box_event ?hg (N := 3) ?hd (cs := #[.bool a1_0, .slice A1_1 l1_1.length c1_1, .string a1_2, .string a1_3, .string a1_4, .int .u64 a1_5, .int .u64 a1_6, .int .u64 a1_7]) (t := 28) ?hr ?_; (case hd => rfl); (case hg => rfl); (case hr => first | (go_simp; done) | (go_simp; rfl)); intro gb113 hg w5 hbox hb; have n0_ := aM_ (blk_below (g := gb112) (o := .cells #[.slice A0_0 l0_0.length c0_0, .bool a0_1, .string a0_2, .string a0_3] 26 (0, 0)) (by (with_reducible repeat (first | refine bN_ ?_ _ | refine bD_ ?_ | refine bA_ ?_ _)); exact BK112.out) hb); have n1_ := aM_ (below_step (by repeat (first | (with_reducible first | exact HB.out | apply bB_ | apply wN_ | apply bE_ | refine bS_ ?_ GE112.out) | exact HB.out)) hb); have n2_ := aM_ (hbox); have n3_ := aM_ ((by rw [hg]; exact (below_size (by repeat (first | (with_reducible first | exact HB.out | apply bB_ | apply wN_ | apply bE_ | refine bS_ ?_ GE112.out) | exact HB.out))) : w.heap.size ≤ gb113)); have n4_ := aM_ ((by rw [hg]; exact (below_size (by repeat (first | (with_reducible first | exact HB.out | apply bB_ | apply wN_ | apply bE_ | refine bS_ ?_ GE112.out) | exact HB.out))) : w.heap.size ≤ gb113)); have n5_ := aM_ ((by rw [hg]; exact Nat.ne_of_lt (blk_lt (g := gb112) (o := .cells #[.slice A0_0 l0_0.length c0_0, .bool a0_1, .string a0_2, .string a0_3] 26 (0, 0)) (by (with_reducible repeat (first | refine bN_ ?_ _ | refine bD_ ?_ | refine bA_ ?_ _)); exact BK112.out)) : gb112 ≠ gb113)); have n6_ := aM_ ((by rw [hg]; exact Nat.ne_of_gt (blk_lt (g := gb112) (o := .cells #[.slice A0_0 l0_0.length c0_0, .bool a0_1, .string a0_2, .string a0_3] 26 (0, 0)) (by (with_reducible repeat (first | refine bN_ ?_ _ | refine bD_ ?_ | refine bA_ ?_ _)); exact BK112.out)) : gb113 ≠ gb112)); clear BK112; clear HB; have BK112 := n0_; have HB := n1_; have BK113 := n2_; have GW113 := n3_; have GE113 := n4_; have NB112_113 := n5_; have NB113_112 := n6_; clear n0_ n1_ n2_ n3_ n4_ n5_ n6_; clear hb hbox hg))
 (try simp only [Act.put, List.setIfInBounds_toArray, List.set_cons_zero, List.set_cons_succ])
 go_cut [52] (fun v52 wc => ∃ (kq : Nat) (x52_2 : Bool), v52 = .bool x52_2 ∧ Aside0 (spec_SameVer.j0 kq x52_2 l0_0 a0_1 a0_2 a0_3 a1_0 l1_1 a1_2 a1_3 a1_4 a1_5 a1_6 a1_7 = some r) ∧ Aside0 (kq ≤ k) ∧ Aside0 (wc.heap[gb112]? = some (.cells #[(.slice A0_0 l0_0.length c0_0), .bool a0_1, .string a0_2, .string a0_3] 26 (0, 0))) ∧ Aside0 (wc.heap[gb113]? = some (.cells #[.bool a1_0, (.slice A1_1 l1_1.length c1_1), .string a1_2, .string a1_3, .string a1_4, .int .u64 a1_5, .int .u64 a1_6, .int .u64 a1_7] 28 (0, 0))) ∧ Aside0 (Below w.heap.size w wc))
 case first =>
  have H := HC3.out
  clear HC3
  by_cases c6 : a1_0 = true
  ·
   subst c6
   have H1 : (if (l1_1.length : Int) = (l0_0.length : Int) then (if a1_2.toList = a0_2.toList then (if a1_3.toList = a0_3.toList then ((spec_Version_Text.f k l0_0 a0_1 a0_2 a0_3).bind fun t114 => (if a1_4.toList = t114.toList then ((spec_Version_part.f l0_0 a0_1 a0_2 a0_3 0).bind fun t115 => (if a1_5 = t115 then ((spec_Version_part.f l0_0 a0_1 a0_2 a0_3 1).bind fun t116 => (spec_SameVer.j0 k (a1_6 != t116) l0_0 a0_1 a0_2 a0_3 true l1_1 a1_2 a1_3 a1_4 a1_5 a1_6 a1_7)) else (none))) else (none))) else (none)) else (none)) else (none)) = some r := by rw [if_pos rfl] at H; exact H
   clear H
   have H := H1
   clear H1
   by_cases c7 : (l1_1.length : Int) = (l0_0.length : Int)
   ·
    rw [if_pos c7] at H
    have c7b0 : ((l1_1.length : Int) == (l0_0.length : Int)) = true := beq_iff_eq.mpr c7
    have c7b1 : ((l1_1.length : Int) != (l0_0.length : Int)) = false := bne_eq_false_iff_eq.mpr c7
    have c7b2 : (l1_1.length == l0_0.length) = true := by first | simpa using c7 | (simp at c7 ⊢; omega)
    clear c7
    (first | rw [c7b0] | (simp only [i64_w, i32_w]; rw [c7b0]) | skip)
    by_cases c8 : a1_2.toList = a0_2.toList
    ·
     rw [if_pos c8] at H
     have c8b0 : (a1_2.toList == a0_2.toList) = true := beq_iff_eq.mpr c8
     have c8b1 : (a1_2.toList != a0_2.toList) = false := bne_eq_false_iff_eq.mpr c8
     clear c8
     by_cases c9 : a1_3.toList = a0_3.toList
     ·
      rw [if_pos c9] at H
      have c9b0 : (a1_3.toList == a0_3.toList) = true := beq_iff_eq.mpr c9
      have c9b1 : (a1_3.toList != a0_3.toList) = false := bne_eq_false_iff_eq.mpr c9
      clear c9
      replace H := Option.bind_eq_some_iff.mp H
      obtain ⟨t114, A100, H⟩ := H
      replace H : (if a1_4.toList = t114.toList then ((spec_Version_part.f l0_0 a0_1 a0_2 a0_3 0).bind fun t115 => (if a1_5 = t115 then ((spec_Version_part.f l0_0 a0_1 a0_2 a0_3 1).bind fun t116 => (spec_SameVer.j0 k (a1_6 != t116) l0_0 a0_1 a0_2 a0_3 true l1_1 a1_2 a1_3 a1_4 a1_5 a1_6 a1_7)) else (none))) else (none)) = some r := H
      have A10 := aM_ A100
      clear A100
      by_cases c11 : a1_4.toList = t114.toList
      ·
       rw [if_pos c11] at H
       have c11b0 : (a1_4.toList == t114.toList) = true := beq_iff_eq.mpr c11
       have c11b1 : (a1_4.toList != t114.toList) = false := bne_eq_false_iff_eq.mpr c11
       clear c11
       replace H := Option.bind_eq_some_iff.mp H
       obtain ⟨t115, A120, H⟩ := H
       replace H : (if a1_5 = t115 then ((spec_Version_part.f l0_0 a0_1 a0_2 a0_3 1).bind fun t116 => (spec_SameVer.j0 k (a1_6 != t116) l0_0 a0_1 a0_2 a0_3 true l1_1 a1_2 a1_3 a1_4 a1_5 a1_6 a1_7)) else (none)) = some r := H
       have A12 := aM_ A120
       clear A120
       by_cases c13 : a1_5 = t115
       ·
        rw [if_pos c13] at H
        have c13b0 : (a1_5 == t115) = true := beq_iff_eq.mpr c13
        have c13b1 : (a1_5 != t115) = false := bne_eq_false_iff_eq.mpr c13
        clear c13
        replace H := Option.bind_eq_some_iff.mp H
        obtain ⟨t116, A140, H⟩ := H
        replace H : (spec_SameVer.j0 k (a1_6 != t116) l0_0 a0_1 a0_2 a0_3 true l1_1 a1_2 a1_3 a1_4 a1_5 a1_6 a1_7) = some r := H
        have A14 := aM_ A140
        clear A140
        have H' := aM_ H
        clear H
        try go_wp2
        have n0_ := aM_ (bD_ BK112.out)
        have n1_ := aM_ (bD_ BK113.out)
        have n2_ := aM_ (bE_ HB.out)
        clear BK112
        clear BK113
        clear HB
        have BK112 := n0_
        have BK113 := n1_
        have HB := n2_
        clear n0_ n1_ n2_
        refine start_ (n := 47) (S := fun w' => w'.cell? ⟨gb113, 0, none⟩ = some (.bool true) ∧ w'.cell? ⟨gb113, 1, none⟩ = some (.slice A1_1 l1_1.length c1_1) ∧ w'.cell? ⟨gb113, 2, none⟩ = some (.string a1_2) ∧ w'.cell? ⟨gb113, 3, none⟩ = some (.string a1_3) ∧ w'.cell? ⟨gb113, 4, none⟩ = some (.string a1_4) ∧ w'.cell? ⟨gb113, 5, none⟩ = some (.int .u64 a1_5) ∧ w'.cell? ⟨gb113, 6, none⟩ = some (.int .u64 a1_6) ∧ w'.cell? ⟨gb113, 7, none⟩ = some (.int .u64 a1_7) ∧ w'.cell? ⟨gb112, 0, none⟩ = some (.slice A0_0 l0_0.length c0_0) ∧ w'.cell? ⟨gb112, 1, none⟩ = some (.bool a0_1) ∧ w'.cell? ⟨gb112, 2, none⟩ = some (.string a0_2) ∧ w'.cell? ⟨gb112, 3, none⟩ = some (.string a0_3)) (ds := []) mBits0 (by kernel_rfl) rfl rfl ⟨(bC_ BK113.out 0).trans rfl, (bC_ BK113.out 1).trans rfl, (bC_ BK113.out 2).trans rfl, (bC_ BK113.out 3).trans rfl, (bC_ BK113.out 4).trans rfl, (bC_ BK113.out 5).trans rfl, (bC_ BK113.out 6).trans rfl, (bC_ BK113.out 7).trans rfl, (bC_ BK112.out 0).trans rfl, (bC_ BK112.out 1).trans rfl, (bC_ BK112.out 2).trans rfl, (bC_ BK112.out 3).trans rfl⟩ (fun hHeld => ?_); refine with_tabW spec_SameVer.tab1 spec_SameVer.bits1 (fun HT_ HW_ => ?_)
        generalize w5.drew = w15 at BK112 BK113 HB hHeld ⊢
        refine pure_ (i := 0) (N := some 6) (v := ?_) (a' := ?_) mBits2 rfl rfl (any_of HT_.out (by kernel_rfl)) (fun _ _ _ h => h) (Or.inl ⟨by rfl, ?_⟩) ?_ ?_
        rotate_left
        ·
         intro w'
         go_simp
         with_reducible rfl
        rotate_left
        ·
         simp only [Act.put, List.setIfInBounds_toArray, List.set_cons_zero, List.set_cons_succ, i64_w, i32_w]
         rfl
        refine take_ (i := 1) (N := some 7) (v := ?_) (a' := ?_) mBits4 rfl rfl (take_ofW HT_.out HW_.out (by kernel_rfl)) (fun _ _ _ h => h) (Or.inl ⟨by rfl, ?_⟩) hHeld ?_ ?_
        rotate_left
        ·
         rintro w' ⟨s0, s1, s2, s3, s4, s5, s6, s7, s8, s9, s10, s11⟩
         go_simp
         with_reducible rfl
        rotate_left
        ·
         simp only [Act.put, List.setIfInBounds_toArray, List.set_cons_zero, List.set_cons_succ, i64_w, i32_w]
         rfl
        refine pure_ (i := 2) (N := some 8) (v := ?_) (a' := ?_) mBits6 rfl rfl (any_of HT_.out (by kernel_rfl)) (fun _ _ _ h => h) (Or.inl ⟨by rfl, ?_⟩) ?_ ?_
        rotate_left
        ·
         intro w'
         go_simp
         with_reducible rfl
        rotate_left
        ·
         simp only [Act.put, List.setIfInBounds_toArray, List.set_cons_zero, List.set_cons_succ, i64_w, i32_w]
         rfl
        refine pure_ (i := 3) (N := some 9) (v := ?_) (a' := ?_) mBits8 rfl rfl (any_of HT_.out (by kernel_rfl)) (fun _ _ _ h => h) (Or.inl ⟨by rfl, ?_⟩) ?_ ?_
        rotate_left
        ·
         intro w'
         go_simp
         with_reducible rfl
        rotate_left
        ·
         simp only [Act.put, List.setIfInBounds_toArray, List.set_cons_zero, List.set_cons_succ, i64_w, i32_w]
         rfl
        refine pure_ (i := 4) (N := some 10) (v := ?_) (a' := ?_) mBits10 rfl rfl (any_of HT_.out (by kernel_rfl)) (fun _ _ _ h => h) (Or.inl ⟨by rfl, ?_⟩) ?_ ?_
        rotate_left
        ·
         intro w'
         go_simp
         with_reducible rfl
        rotate_left
        ·
         simp only [Act.put, List.setIfInBounds_toArray, List.set_cons_zero, List.set_cons_succ, i64_w, i32_w]
         rfl
        refine pure_ (i := 7) (N := some 13) (v := ?_) (a' := ?_) mBits12 rfl rfl (any_of HT_.out (by kernel_rfl)) (fun _ _ _ h => h) (Or.inl ⟨by rfl, ?_⟩) ?_ ?_
        rotate_left
        ·
         intro w'
         go_simp
         with_reducible rfl
        rotate_left
        ·
         simp only [Act.put, List.setIfInBounds_toArray, List.set_cons_zero, List.set_cons_succ, i64_w, i32_w]
         rfl
        refine take_ (i := 5) (N := some 11) (v := ?_) (a' := ?_) mBits15 rfl rfl (take_ofW HT_.out HW_.out (by kernel_rfl)) (fun _ _ _ h => h) (Or.inl ⟨by rfl, ?_⟩) hHeld ?_ ?_
        rotate_left
        ·
         rintro w' ⟨s0, s1, s2, s3, s4, s5, s6, s7, s8, s9, s10, s11⟩
         go_simp
         with_reducible rfl
        rotate_left
        ·
         simp only [Act.put, List.setIfInBounds_toArray, List.set_cons_zero, List.set_cons_succ, i64_w, i32_w]
         rfl
        refine pure_ (i := 6) (N := some 12) (v := ?_) (a' := ?_) mBits18 rfl rfl (any_of HT_.out (by kernel_rfl)) (fun _ _ _ h => h) (Or.inl ⟨by rfl, ?_⟩) ?_ ?_
        rotate_left
        ·
         intro w'
         go_simp
         with_reducible rfl
        rotate_left
        ·
         simp only [Act.put, List.setIfInBounds_toArray, List.set_cons_zero, List.set_cons_succ, i64_w, i32_w]
         rfl
        refine take_ (i := 8) (N := some 14) (v := ?_) (a' := ?_) mBits20 rfl rfl (take_ofW HT_.out HW_.out (by kernel_rfl)) (fun _ _ _ h => h) (Or.inl ⟨by rfl, ?_⟩) hHeld ?_ ?_
        rotate_left
        ·
         rintro w' ⟨s0, s1, s2, s3, s4, s5, s6, s7, s8, s9, s10, s11⟩
         go_simp
         with_reducible rfl
        rotate_left
        ·
         simp only [Act.put, List.setIfInBounds_toArray, List.set_cons_zero, List.set_cons_succ, i64_w, i32_w]
         rfl
        refine pure_ (i := 9) (N := some 15) (v := ?_) (a' := ?_) mBits22 rfl rfl (any_of HT_.out (by kernel_rfl)) (fun _ _ _ h => h) (Or.inl ⟨by rfl, ?_⟩) ?_ ?_
        rotate_left
        ·
         intro w'
         go_simp
         with_reducible rfl
        rotate_left
        ·
         simp only [Act.put, List.setIfInBounds_toArray, List.set_cons_zero, List.set_cons_succ, i64_w, i32_w]
         rfl
        refine pure_ (i := 10) (N := some 16) (v := ?_) (a' := ?_) mBits24 rfl rfl (any_of HT_.out (by kernel_rfl)) (fun _ _ _ h => h) (Or.inl ⟨by rfl, ?_⟩) ?_ ?_
        rotate_left
        ·
         intro w'
         go_simp
         with_reducible rfl
        rotate_left
        ·
         simp only [Act.put, List.setIfInBounds_toArray, List.set_cons_zero, List.set_cons_succ, i64_w, i32_w]
         rfl
        refine pure_ (i := 11) (N := some 17) (v := ?_) (a' := ?_) mBits26 rfl rfl (any_of HT_.out (by kernel_rfl)) (fun _ _ _ h => h) (Or.inl ⟨by rfl, ?_⟩) ?_ ?_
        rotate_left
        ·
         intro w'
         go_simp
         with_reducible rfl
        rotate_left
        ·
         simp only [Act.put, List.setIfInBounds_toArray, List.set_cons_zero, List.set_cons_succ, i64_w, i32_w]
         rfl
        refine pure_ (i := 12) (N := some 18) (v := ?_) (a' := ?_) mBits28 rfl rfl (any_of HT_.out (by kernel_rfl)) (fun _ _ _ h => h) (Or.inl ⟨by rfl, ?_⟩) ?_ ?_
        rotate_left
        ·
         intro w'
         go_simp
         with_reducible rfl
        rotate_left
        ·
         simp only [Act.put, List.setIfInBounds_toArray, List.set_cons_zero, List.set_cons_succ, i64_w, i32_w]
         rfl
        refine pure_ (i := 13) (N := some 19) (v := ?_) (a' := ?_) mBits30 rfl rfl (any_of HT_.out (by kernel_rfl)) (fun _ _ _ h => h) (Or.inl ⟨by rfl, ?_⟩) ?_ ?_
        rotate_left
        ·
         intro w'
         go_simp
         with_reducible rfl
        rotate_left
        ·
         simp only [Act.put, List.setIfInBounds_toArray, List.set_cons_zero, List.set_cons_succ, i64_w, i32_w]
         rfl
        refine pure_ (i := 15) (N := some 21) (v := ?_) (a' := ?_) mBits32 rfl rfl (any_of HT_.out (by kernel_rfl)) (fun _ _ _ h => h) (Or.inl ⟨by rfl, ?_⟩) ?_ ?_
        rotate_left
        ·
         intro w'
         go_simp
         with_reducible rfl
        rotate_left
        ·
         simp only [Act.put, List.setIfInBounds_toArray, List.set_cons_zero, List.set_cons_succ, i64_w, i32_w]
         rfl
        refine take_ (i := 14) (N := some 20) (v := ?_) (a' := ?_) mBits35 rfl rfl (take_ofW HT_.out HW_.out (by kernel_rfl)) (fun _ _ _ h => h) (Or.inl ⟨by rfl, ?_⟩) hHeld ?_ ?_
        rotate_left
        ·
         rintro w' ⟨s0, s1, s2, s3, s4, s5, s6, s7, s8, s9, s10, s11⟩
         go_simp
         with_reducible rfl
        rotate_left
        ·
         simp only [Act.put, List.setIfInBounds_toArray, List.set_cons_zero, List.set_cons_succ, i64_w, i32_w]
         rfl
        refine take_ (i := 16) (N := some 22) (v := ?_) (a' := ?_) mBits37 rfl rfl (take_ofW HT_.out HW_.out (by kernel_rfl)) (fun _ _ _ h => h) (Or.inl ⟨by rfl, ?_⟩) hHeld ?_ ?_
        rotate_left
        ·
         rintro w' ⟨s0, s1, s2, s3, s4, s5, s6, s7, s8, s9, s10, s11⟩
         go_simp
         with_reducible rfl
        rotate_left
        ·
         simp only [Act.put, List.setIfInBounds_toArray, List.set_cons_zero, List.set_cons_succ, i64_w, i32_w]
         rfl
        refine pure_ (i := 17) (N := some 23) (v := ?_) (a' := ?_) mBits38 rfl rfl (any_of HT_.out (by kernel_rfl)) (fun _ _ _ h => h) (Or.inl ⟨by rfl, ?_⟩) ?_ ?_
        rotate_left
        ·
         intro w'
         go_simp
         with_reducible rfl
        rotate_left
        ·
         simp only [Act.put, List.setIfInBounds_toArray, List.set_cons_zero, List.set_cons_succ, i64_w, i32_w]
         rfl
        refine pure_ (i := 18) (N := some 24) (v := ?_) (a' := ?_) mBits39 rfl rfl (any_of HT_.out (by kernel_rfl)) (fun _ _ _ h => h) (Or.inl ⟨by rfl, ?_⟩) ?_ ?_
        rotate_left
        ·
         intro w'
         go_simp
         with_reducible rfl
        rotate_left
        ·
         simp only [Act.put, List.setIfInBounds_toArray, List.set_cons_zero, List.set_cons_succ, i64_w, i32_w]
         rfl
        refine pure_ (i := 19) (N := some 25) (v := ?_) (a' := ?_) mBits40 rfl rfl (any_of HT_.out (by kernel_rfl)) (fun _ _ _ h => h) (Or.inl ⟨by rfl, ?_⟩) ?_ ?_
        rotate_left
        ·
         intro w'
         go_simp
         with_reducible rfl
        rotate_left
        ·
         simp only [Act.put, List.setIfInBounds_toArray, List.set_cons_zero, List.set_cons_succ, i64_w, i32_w]
         rfl
        refine pure_ (i := 20) (N := some 26) (v := ?_) (a' := ?_) mBits41 rfl rfl (any_of HT_.out (by kernel_rfl)) (fun _ _ _ h => h) (Or.inl ⟨by rfl, ?_⟩) ?_ ?_
        rotate_left
        ·
         intro w'
         go_simp
         with_reducible rfl
        rotate_left
        ·
         simp only [Act.put, List.setIfInBounds_toArray, List.set_cons_zero, List.set_cons_succ, i64_w, i32_w]
         rfl
        refine pure_ (i := 22) (N := some 28) (v := ?_) (a' := ?_) mBits42 rfl rfl (any_of HT_.out (by kernel_rfl)) (fun _ _ _ h => h) (Or.inl ⟨by rfl, ?_⟩) ?_ ?_
        rotate_left
        ·
         intro w'
         go_simp
         with_reducible rfl
        rotate_left
        ·
         simp only [Act.put, List.setIfInBounds_toArray, List.set_cons_zero, List.set_cons_succ, i64_w, i32_w]
         rfl
        refine take_ (i := 21) (N := some 27) (v := ?_) (a' := ?_) mBits44 rfl rfl (take_ofW HT_.out HW_.out (by kernel_rfl)) (fun _ _ _ h => h) (Or.inl ⟨by rfl, ?_⟩) hHeld ?_ ?_
        rotate_left
        ·
         rintro w' ⟨s0, s1, s2, s3, s4, s5, s6, s7, s8, s9, s10, s11⟩
         go_simp
         with_reducible rfl
        rotate_left
        ·
         simp only [Act.put, List.setIfInBounds_toArray, List.set_cons_zero, List.set_cons_succ, i64_w, i32_w]
         rfl
        refine take_ (i := 23) (N := some 29) (v := ?_) (a' := ?_) mBits45 rfl rfl (take_ofW HT_.out HW_.out (by kernel_rfl)) (fun _ _ _ h => h) (Or.inl ⟨by rfl, ?_⟩) hHeld ?_ ?_
        rotate_left
        ·
         rintro w' ⟨s0, s1, s2, s3, s4, s5, s6, s7, s8, s9, s10, s11⟩
         go_simp
         with_reducible rfl
        rotate_left
        ·
         simp only [Act.put, List.setIfInBounds_toArray, List.set_cons_zero, List.set_cons_succ, i64_w, i32_w]
         rfl
        refine pure_ (i := 24) (N := some 30) (v := ?_) (a' := ?_) mBits46 rfl rfl (any_of HT_.out (by kernel_rfl)) (fun _ _ _ h => h) (Or.inl ⟨by rfl, ?_⟩) ?_ ?_
        rotate_left
        ·
         intro w'
         go_simp
         with_reducible rfl
        rotate_left
        ·
         simp only [Act.put, List.setIfInBounds_toArray, List.set_cons_zero, List.set_cons_succ, i64_w, i32_w]
         rfl
        refine pure_ (i := 25) (N := some 31) (v := ?_) (a' := ?_) mBits47 rfl rfl (any_of HT_.out (by kernel_rfl)) (fun _ _ _ h => h) (Or.inl ⟨by rfl, ?_⟩) ?_ ?_
        rotate_left
        ·
         intro w'
         go_simp
         with_reducible rfl
        rotate_left
        ·
         simp only [Act.put, List.setIfInBounds_toArray, List.set_cons_zero, List.set_cons_succ, i64_w, i32_w]
         rfl
        refine pure_ (i := 26) (N := some 32) (v := ?_) (a' := ?_) mBits48 rfl rfl (any_of HT_.out (by kernel_rfl)) (fun _ _ _ h => h) (Or.inl ⟨by rfl, ?_⟩) ?_ ?_
        rotate_left
        ·
         intro w'
         go_simp
         with_reducible rfl
        rotate_left
        ·
         simp only [Act.put, List.setIfInBounds_toArray, List.set_cons_zero, List.set_cons_succ, i64_w, i32_w]
         rfl
        refine pure_ (i := 27) (N := some 33) (v := ?_) (a' := ?_) mBits49 rfl rfl (any_of HT_.out (by kernel_rfl)) (fun _ _ _ h => h) (Or.inl ⟨by rfl, ?_⟩) ?_ ?_
        rotate_left
        ·
         intro w'
         go_simp
         with_reducible rfl
        rotate_left
        ·
         simp only [Act.put, List.setIfInBounds_toArray, List.set_cons_zero, List.set_cons_succ, i64_w, i32_w]
         rfl
        refine take_ (i := 28) (N := some 34) (v := ?_) (a' := ?_) mBits50 rfl rfl (take_ofW HT_.out HW_.out (by kernel_rfl)) (fun _ _ _ h => h) (Or.inl ⟨by rfl, ?_⟩) hHeld ?_ ?_
        rotate_left
        ·
         rintro w' ⟨s0, s1, s2, s3, s4, s5, s6, s7, s8, s9, s10, s11⟩
         go_simp
         with_reducible rfl
        rotate_left
        ·
         simp only [Act.put, List.setIfInBounds_toArray, List.set_cons_zero, List.set_cons_succ, i64_w, i32_w]
         rfl
        refine take_ (i := 29) (N := some 35) (v := ?_) (a' := ?_) mBits51 rfl rfl (take_ofW HT_.out HW_.out (by kernel_rfl)) (fun _ _ _ h => h) (Or.inl ⟨by rfl, ?_⟩) hHeld ?_ ?_
        rotate_left
        ·
         rintro w' ⟨s0, s1, s2, s3, s4, s5, s6, s7, s8, s9, s10, s11⟩
         go_simp
         with_reducible rfl
        rotate_left
        ·
         simp only [Act.put, List.setIfInBounds_toArray, List.set_cons_zero, List.set_cons_succ, i64_w, i32_w]
         rfl
        refine one_ (i := 30) (N := some 36) mBits52 rfl rfl (one_of HT_.out (by kernel_rfl)) (by decide) (fun K hK => ?_)
        refine goes_ Tryd.func13 (by kernel_rfl) rfl #[.agg #[.slice A0_0 l0_0.length c0_0, .bool a0_1, .string a0_2, .string a0_3]] (by rfl) rfl rfl (by (try simp only [List.map_toArray, List.map_cons, List.map_nil]); first | done | rfl | (simp only [List.length_drop, List.length_take]; rfl)) ?_
        with_reducible refine (spec_Version_Text.calls k _ _ l0_0 a0_1 a0_2 a0_3 t114 _ ?side1 ?side2 A10.out).mono ?_
        (case side1 => repeat (first | exact (Kd.C_below HR0_0.out HB.out) | (with_reducible refine Kd.C_alloc ?_ _) | (with_reducible refine Kd.C_drewN ?_ _) | (with_reducible refine Kd.C_drew ?_)))
        (case side2 => exact HC0_0.out)
        rintro e w16 ⟨rfl, hb⟩
        refine ⟨_, rfl, ?_⟩
        have n0_ := aM_ (blk_below (g := gb112) (o := .cells #[.slice A0_0 l0_0.length c0_0, .bool a0_1, .string a0_2, .string a0_3] 26 (0, 0)) (by (with_reducible repeat (first | refine bN_ ?_ _ | refine bD_ ?_ | refine bA_ ?_ _)); exact BK112.out) hb)
        have n1_ := aM_ (blk_below (g := gb113) (o := .cells #[.bool true, .slice A1_1 l1_1.length c1_1, .string a1_2, .string a1_3, .string a1_4, .int .u64 a1_5, .int .u64 a1_6, .int .u64 a1_7] 28 (0, 0)) (by (with_reducible repeat (first | refine bN_ ?_ _ | refine bD_ ?_ | refine bA_ ?_ _)); exact BK113.out) hb)
        have n2_ := aM_ (below_step (by repeat (first | (with_reducible first | exact HB.out | apply bB_ | apply wN_ | apply bE_ | refine bS_ ?_ GE112.out | refine bS_ ?_ GE113.out) | exact HB.out)) hb)
        clear BK112
        clear BK113
        clear HB
        have BK112 := n0_
        have BK113 := n1_
        have HB := n2_
        clear n0_ n1_ n2_
        (try clear hb)
        (try clear hb2)
        (try clear hk)
        (try clear hi)
        refine hK.out _ _ ⟨(bC_ BK113.out 0).trans rfl, (bC_ BK113.out 1).trans rfl, (bC_ BK113.out 2).trans rfl, (bC_ BK113.out 3).trans rfl, (bC_ BK113.out 4).trans rfl, (bC_ BK113.out 5).trans rfl, (bC_ BK113.out 6).trans rfl, (bC_ BK113.out 7).trans rfl, (bC_ BK112.out 0).trans rfl, (bC_ BK112.out 1).trans rfl, (bC_ BK112.out 2).trans rfl, (bC_ BK112.out 3).trans rfl⟩ (fun hHeld => ?_)
        clear hK K
        refine norm_ (a' := ?_) ?_ ?_
        rotate_left
        ·
         show Act.put _ (some 36) _ = _
         simp only [Act.put, List.setIfInBounds_toArray, List.set_cons_zero, List.set_cons_succ, i64_w, i32_w]
         rfl
        refine pure_ (i := 31) (N := some 37) (v := ?_) (a' := ?_) mBits53 rfl rfl (any_of HT_.out (by kernel_rfl)) (fun _ _ _ h => h) (Or.inl ⟨by rfl, ?_⟩) ?_ ?_
        rotate_left
        ·
         intro w'
         go_simp
         with_reducible rfl
        rotate_left
        ·
         simp only [Act.put, List.setIfInBounds_toArray, List.set_cons_zero, List.set_cons_succ, i64_w, i32_w]
         rfl
        refine pure_ (i := 32) (N := some 38) (v := ?_) (a' := ?_) mBits54 rfl rfl (any_of HT_.out (by kernel_rfl)) (fun _ _ _ h => h) (Or.inl ⟨by rfl, ?_⟩) ?_ ?_
        rotate_left
        ·
         intro w'
         go_simp
         with_reducible rfl
        rotate_left
        ·
         simp only [Act.put, List.setIfInBounds_toArray, List.set_cons_zero, List.set_cons_succ, i64_w, i32_w]
         rfl
        refine pure_ (i := 33) (N := some 39) (v := ?_) (a' := ?_) mBits55 rfl rfl (any_of HT_.out (by kernel_rfl)) (fun _ _ _ h => h) (Or.inl ⟨by rfl, ?_⟩) ?_ ?_
        rotate_left
        ·
         intro w'
         go_simp
         with_reducible rfl
        rotate_left
        ·
         simp only [Act.put, List.setIfInBounds_toArray, List.set_cons_zero, List.set_cons_succ, i64_w, i32_w]
         rfl
        refine pure_ (i := 34) (N := some 40) (v := ?_) (a' := ?_) mBits56 rfl rfl (any_of HT_.out (by kernel_rfl)) (fun _ _ _ h => h) (Or.inl ⟨by rfl, ?_⟩) ?_ ?_
        rotate_left
        ·
         intro w'
         go_simp
         with_reducible rfl
        rotate_left
        ·
         simp only [Act.put, List.setIfInBounds_toArray, List.set_cons_zero, List.set_cons_succ, i64_w, i32_w]
         rfl
        refine take_ (i := 35) (N := some 41) (v := ?_) (a' := ?_) mBits57 rfl rfl (take_ofW HT_.out HW_.out (by kernel_rfl)) (fun _ _ _ h => h) (Or.inl ⟨by rfl, ?_⟩) hHeld ?_ ?_
        rotate_left
        ·
         rintro w' ⟨s0, s1, s2, s3, s4, s5, s6, s7, s8, s9, s10, s11⟩
         go_simp
         with_reducible rfl
        rotate_left
        ·
         simp only [Act.put, List.setIfInBounds_toArray, List.set_cons_zero, List.set_cons_succ, i64_w, i32_w]
         rfl
        refine take_ (i := 36) (N := some 42) (v := ?_) (a' := ?_) mBits58 rfl rfl (take_ofW HT_.out HW_.out (by kernel_rfl)) (fun _ _ _ h => h) (Or.inl ⟨by rfl, ?_⟩) hHeld ?_ ?_
        rotate_left
        ·
         rintro w' ⟨s0, s1, s2, s3, s4, s5, s6, s7, s8, s9, s10, s11⟩
         go_simp
         with_reducible rfl
        rotate_left
        ·
         simp only [Act.put, List.setIfInBounds_toArray, List.set_cons_zero, List.set_cons_succ, i64_w, i32_w]
         rfl
        refine one_ (i := 37) (N := some 43) mBits59 rfl rfl (one_of HT_.out (by kernel_rfl)) (by decide) (fun K hK => ?_)
        refine goes_ Tryd.func28 (by kernel_rfl) rfl #[.agg #[.slice A0_0 l0_0.length c0_0, .bool a0_1, .string a0_2, .string a0_3], .int .i64 0] (by rfl) rfl rfl (by (try simp only [List.map_toArray, List.map_cons, List.map_nil]); first | done | rfl | (simp only [List.length_drop, List.length_take]; rfl)) ?_
        with_reducible refine (spec_Version_part.calls _ _ l0_0 a0_1 a0_2 a0_3 0 t115 _ ?side1 ?side2 A12.out).mono ?_
        (case side1 => repeat (first | exact (Kd.C_below HR0_0.out HB.out) | (with_reducible refine Kd.C_alloc ?_ _) | (with_reducible refine Kd.C_drewN ?_ _) | (with_reducible refine Kd.C_drew ?_)))
        (case side2 => exact HC0_0.out)
        rintro e w17 ⟨rfl, hb⟩
        refine ⟨_, rfl, ?_⟩
        have n0_ := aM_ (blk_below (g := gb112) (o := .cells #[.slice A0_0 l0_0.length c0_0, .bool a0_1, .string a0_2, .string a0_3] 26 (0, 0)) (by (with_reducible repeat (first | refine bN_ ?_ _ | refine bD_ ?_ | refine bA_ ?_ _)); exact BK112.out) hb)
        have n1_ := aM_ (blk_below (g := gb113) (o := .cells #[.bool true, .slice A1_1 l1_1.length c1_1, .string a1_2, .string a1_3, .string a1_4, .int .u64 a1_5, .int .u64 a1_6, .int .u64 a1_7] 28 (0, 0)) (by (with_reducible repeat (first | refine bN_ ?_ _ | refine bD_ ?_ | refine bA_ ?_ _)); exact BK113.out) hb)
        have n2_ := aM_ (below_step (by repeat (first | (with_reducible first | exact HB.out | apply bB_ | apply wN_ | apply bE_ | refine bS_ ?_ GE112.out | refine bS_ ?_ GE113.out) | exact HB.out)) hb)
        clear BK112
        clear BK113
        clear HB
        have BK112 := n0_
        have BK113 := n1_
        have HB := n2_
        clear n0_ n1_ n2_
        (try clear hb)
        (try clear hb2)
        (try clear hk)
        (try clear hi)
        refine hK.out _ _ ⟨(bC_ BK113.out 0).trans rfl, (bC_ BK113.out 1).trans rfl, (bC_ BK113.out 2).trans rfl, (bC_ BK113.out 3).trans rfl, (bC_ BK113.out 4).trans rfl, (bC_ BK113.out 5).trans rfl, (bC_ BK113.out 6).trans rfl, (bC_ BK113.out 7).trans rfl, (bC_ BK112.out 0).trans rfl, (bC_ BK112.out 1).trans rfl, (bC_ BK112.out 2).trans rfl, (bC_ BK112.out 3).trans rfl⟩ (fun hHeld => ?_)
        clear hK K
        refine norm_ (a' := ?_) ?_ ?_
        rotate_left
        ·
         show Act.put _ (some 43) _ = _
         simp only [Act.put, List.setIfInBounds_toArray, List.set_cons_zero, List.set_cons_succ, i64_w, i32_w]
         rfl
        refine pure_ (i := 38) (N := some 44) (v := ?_) (a' := ?_) mBits60 rfl rfl (any_of HT_.out (by kernel_rfl)) (fun _ _ _ h => h) (Or.inl ⟨by rfl, ?_⟩) ?_ ?_
        rotate_left
        ·
         intro w'
         go_simp
         with_reducible rfl
        rotate_left
        ·
         simp only [Act.put, List.setIfInBounds_toArray, List.set_cons_zero, List.set_cons_succ, i64_w, i32_w]
         rfl
        refine pure_ (i := 39) (N := some 45) (v := ?_) (a' := ?_) mBits61 rfl rfl (any_of HT_.out (by kernel_rfl)) (fun _ _ _ h => h) (Or.inl ⟨by rfl, ?_⟩) ?_ ?_
        rotate_left
        ·
         intro w'
         go_simp
         with_reducible rfl
        rotate_left
        ·
         simp only [Act.put, List.setIfInBounds_toArray, List.set_cons_zero, List.set_cons_succ, i64_w, i32_w]
         rfl
        refine pure_ (i := 40) (N := some 46) (v := ?_) (a' := ?_) mBits62 rfl rfl (any_of HT_.out (by kernel_rfl)) (fun _ _ _ h => h) (Or.inl ⟨by rfl, ?_⟩) ?_ ?_
        rotate_left
        ·
         intro w'
         go_simp
         with_reducible rfl
        rotate_left
        ·
         simp only [Act.put, List.setIfInBounds_toArray, List.set_cons_zero, List.set_cons_succ, i64_w, i32_w]
         rfl
        refine pure_ (i := 41) (N := some 47) (v := ?_) (a' := ?_) mBits63 rfl rfl (any_of HT_.out (by kernel_rfl)) (fun _ _ _ h => h) (Or.inl ⟨by rfl, ?_⟩) ?_ ?_
        rotate_left
        ·
         intro w'
         go_simp
         with_reducible rfl
        rotate_left
        ·
         simp only [Act.put, List.setIfInBounds_toArray, List.set_cons_zero, List.set_cons_succ, i64_w, i32_w]
         rfl
        refine take_ (i := 42) (N := some 48) (v := ?_) (a' := ?_) mBits64 rfl rfl (take_ofW HT_.out HW_.out (by kernel_rfl)) (fun _ _ _ h => h) (Or.inl ⟨by rfl, ?_⟩) hHeld ?_ ?_
        rotate_left
        ·
         rintro w' ⟨s0, s1, s2, s3, s4, s5, s6, s7, s8, s9, s10, s11⟩
         go_simp
         with_reducible rfl
        rotate_left
        ·
         simp only [Act.put, List.setIfInBounds_toArray, List.set_cons_zero, List.set_cons_succ, i64_w, i32_w]
         rfl
        refine take_ (i := 43) (N := some 49) (v := ?_) (a' := ?_) mBits65 rfl rfl (take_ofW HT_.out HW_.out (by kernel_rfl)) (fun _ _ _ h => h) (Or.inl ⟨by rfl, ?_⟩) hHeld ?_ ?_
        rotate_left
        ·
         rintro w' ⟨s0, s1, s2, s3, s4, s5, s6, s7, s8, s9, s10, s11⟩
         go_simp
         with_reducible rfl
        rotate_left
        ·
         simp only [Act.put, List.setIfInBounds_toArray, List.set_cons_zero, List.set_cons_succ, i64_w, i32_w]
         rfl
        refine one_ (i := 44) (N := some 50) mBits66 rfl rfl (one_of HT_.out (by kernel_rfl)) (by decide) (fun K hK => ?_)
        refine goes_ Tryd.func28 (by kernel_rfl) rfl #[.agg #[.slice A0_0 l0_0.length c0_0, .bool a0_1, .string a0_2, .string a0_3], .int .i64 1] (by rfl) rfl rfl (by (try simp only [List.map_toArray, List.map_cons, List.map_nil]); first | done | rfl | (simp only [List.length_drop, List.length_take]; rfl)) ?_
        with_reducible refine (spec_Version_part.calls _ _ l0_0 a0_1 a0_2 a0_3 1 t116 _ ?side1 ?side2 A14.out).mono ?_
        (case side1 => repeat (first | exact (Kd.C_below HR0_0.out HB.out) | (with_reducible refine Kd.C_alloc ?_ _) | (with_reducible refine Kd.C_drewN ?_ _) | (with_reducible refine Kd.C_drew ?_)))
        (case side2 => exact HC0_0.out)
        rintro e w18 ⟨rfl, hb⟩
        refine ⟨_, rfl, ?_⟩
        have n0_ := aM_ (blk_below (g := gb112) (o := .cells #[.slice A0_0 l0_0.length c0_0, .bool a0_1, .string a0_2, .string a0_3] 26 (0, 0)) (by (with_reducible repeat (first | refine bN_ ?_ _ | refine bD_ ?_ | refine bA_ ?_ _)); exact BK112.out) hb)
        have n1_ := aM_ (blk_below (g := gb113) (o := .cells #[.bool true, .slice A1_1 l1_1.length c1_1, .string a1_2, .string a1_3, .string a1_4, .int .u64 a1_5, .int .u64 a1_6, .int .u64 a1_7] 28 (0, 0)) (by (with_reducible repeat (first | refine bN_ ?_ _ | refine bD_ ?_ | refine bA_ ?_ _)); exact BK113.out) hb)
        have n2_ := aM_ (below_step (by repeat (first | (with_reducible first | exact HB.out | apply bB_ | apply wN_ | apply bE_ | refine bS_ ?_ GE112.out | refine bS_ ?_ GE113.out) | exact HB.out)) hb)
        clear BK112
        clear BK113
        clear HB
        have BK112 := n0_
        have BK113 := n1_
        have HB := n2_
        clear n0_ n1_ n2_
        (try clear hb)
        (try clear hb2)
        (try clear hk)
        (try clear hi)
        refine hK.out _ _ ⟨(bC_ BK113.out 0).trans rfl, (bC_ BK113.out 1).trans rfl, (bC_ BK113.out 2).trans rfl, (bC_ BK113.out 3).trans rfl, (bC_ BK113.out 4).trans rfl, (bC_ BK113.out 5).trans rfl, (bC_ BK113.out 6).trans rfl, (bC_ BK113.out 7).trans rfl, (bC_ BK112.out 0).trans rfl, (bC_ BK112.out 1).trans rfl, (bC_ BK112.out 2).trans rfl, (bC_ BK112.out 3).trans rfl⟩ (fun hHeld => ?_)
        clear hK K
        refine norm_ (a' := ?_) ?_ ?_
        rotate_left
        ·
         show Act.put _ (some 50) _ = _
         simp only [Act.put, List.setIfInBounds_toArray, List.set_cons_zero, List.set_cons_succ, i64_w, i32_w]
         rfl
        refine pure_ (i := 45) (N := some 51) (v := ?_) (a' := ?_) mBits67 rfl rfl (any_of HT_.out (by kernel_rfl)) (fun _ _ _ h => h) (Or.inl ⟨by rfl, ?_⟩) ?_ ?_
        rotate_left
        ·
         intro w'
         go_simp
         with_reducible rfl
        rotate_left
        ·
         simp only [Act.put, List.setIfInBounds_toArray, List.set_cons_zero, List.set_cons_succ, i64_w, i32_w]
         rfl
        refine pure_ (i := 46) (N := some 52) (v := ?_) (a' := ?_) mBits68 rfl rfl (any_of HT_.out (by kernel_rfl)) (fun _ _ _ h => h) (Or.inl ⟨by rfl, ?_⟩) ?_ ?_
        rotate_left
        ·
         intro w'
         go_simp
         with_reducible rfl
        rotate_left
        ·
         simp only [Act.put, List.setIfInBounds_toArray, List.set_cons_zero, List.set_cons_succ, i64_w, i32_w]
         rfl
        refine done_ (done_of HT_.out (by kernel_rfl)) ?_
        try go_wp2
        go_meet
        case rel => exact ⟨_, ((a1_6 != t116)), (by first | rfl | (simp; done) | (simp [*]; done)), H', ⟨by first | omega | exact Nat.le_refl _⟩, ⟨by (with_reducible repeat (first | refine bN_ ?_ _ | refine bD_ ?_ | refine bA_ ?_ _)); exact BK112.out⟩, ⟨by (with_reducible repeat (first | refine bN_ ?_ _ | refine bD_ ?_ | refine bA_ ?_ _)); exact BK113.out⟩, ⟨by repeat (first | (with_reducible first | exact HB.out | apply bB_ | apply wN_ | apply bE_ | refine bS_ ?_ GE112.out | refine bS_ ?_ GE113.out) | exact HB.out)⟩⟩
       ·
        rw [if_neg c13] at H
        exact absurd H (by simp)
      ·
       rw [if_neg c11] at H
       exact absurd H (by simp)
     ·
      rw [if_neg c9] at H
      exact absurd H (by simp)
    ·
     rw [if_neg c8] at H
     exact absurd H (by simp)
   ·
    rw [if_neg c7] at H
    exact absurd H (by simp)
  ·
   rw [if_neg c6] at H
   exact absurd H (by simp)
 case rest =>
  clear HC3
  try clear c1
  try clear p2
  try clear c6
  try clear c7
  try clear c7b0
  try clear c7b1
  try clear c7b2
  obtain ⟨kq, x52_2, rfl, HA, HJ2, BK112, BK113, HB⟩ := hcut
  cases kq with
  | zero => exact absurd HA.out (by simp [spec_SameVer.j0])
  | succ kj2 =>
   have H := HA.out
   clear HA
   simp only [spec_SameVer.j0] at H
   by_cases c28 : x52_2 = true
   ·
    subst c28
    have H1 : (some false) = some r := by rw [if_pos rfl] at H; exact H
    clear H
    have H := H1
    clear H1
    obtain rfl := Option.some.inj H
    go_wp2
    go_ret
    exact ⟨by first | rfl | (simp [errW_none, errW_some] <;> rfl) | (simp [*, errW_none, errW_some] <;> rfl) | (exfalso; contradiction), by repeat (first | (with_reducible first | exact HB.out | apply bB_ | apply wN_ | apply bE_ | refine bS_ ?_ GE112.out | refine bS_ ?_ GE113.out) | exact HB.out)⟩
   ·
    replace c28 := Bool.eq_false_iff.mpr c28
    subst c28
    have H1 : (spec_SameVer.l0 kj2 0 l0_0 a0_1 a0_2 a0_3 a1_0 l1_1 a1_2 a1_3 a1_4 a1_5 a1_6 a1_7) = some r := by rw [if_neg (show ¬ (false = true) by decide)] at H; exact H
    clear H
    have H := H1
    clear H1
    have H' := aM_ H
    clear H
    go_wp2
    go_loopg [5] kj2 (fun kq v5 w' => ∃ (x5_2 : Int), v5 = .int .i64 x5_2 ∧ Aside0 (spec_SameVer.l0 kq x5_2 l0_0 a0_1 a0_2 a0_3 a1_0 l1_1 a1_2 a1_3 a1_4 a1_5 a1_6 a1_7 = some r) ∧ Aside0 (kq ≤ kj2) ∧ Aside0 (w'.heap[gb112]? = some (.cells #[(.slice A0_0 l0_0.length c0_0), .bool a0_1, .string a0_2, .string a0_3] 26 (0, 0))) ∧ Aside0 (w'.heap[gb113]? = some (.cells #[.bool a1_0, (.slice A1_1 l1_1.length c1_1), .string a1_2, .string a1_3, .string a1_4, .int .u64 a1_5, .int .u64 a1_6, .int .u64 a1_7] 28 (0, 0))) ∧ Aside0 (Below w.heap.size w w'))
    case atStart => exact ⟨(0), (by first | rfl | (simp; done) | (simp [*]; done)), H', ⟨Nat.le_refl _⟩, ⟨by (with_reducible repeat (first | refine bN_ ?_ _ | refine bD_ ?_ | refine bA_ ?_ _)); exact BK112.out⟩, ⟨by (with_reducible repeat (first | refine bN_ ?_ _ | refine bD_ ?_ | refine bA_ ?_ _)); exact BK113.out⟩, ⟨by repeat (first | (with_reducible first | exact HB.out | apply bB_ | apply wN_ | apply bE_ | refine bS_ ?_ GE112.out | refine bS_ ?_ GE113.out) | exact HB.out)⟩⟩
    case round =>
     clear H'
     try clear c1
     try clear c2
     try clear p2
     try clear c6
     try clear c7
     try clear c7b0
     try clear c7b1
     try clear c7b2
     try clear c28
     try clear p2
     obtain ⟨x5_2, rfl, HA, HK2, BK112, BK113, HB⟩ := hrel
     cases gk with
     | zero => exact absurd HA.out (by simp [spec_SameVer.l0])
     | succ k2 =>
      have H := HA.out
      clear HA
      simp only [spec_SameVer.l0] at H
      by_cases c29 : x5_2 < (l0_0.length : Int)
      ·
       rw [if_pos c29] at H
       have c29b0 : decide (x5_2 < (l0_0.length : Int)) = true := decide_eq_true c29
       clear c29
       by_cases c30 : 0 ≤ x5_2
       ·
        rw [if_pos c30] at H
        have c30b0 : decide (0 ≤ x5_2) = true := decide_eq_true c30
        clear c30
        by_cases c31 : x5_2 < (l1_1.length : Int)
        ·
         rw [if_pos c31] at H
         have c31b0 : decide (x5_2 < (l1_1.length : Int)) = true := decide_eq_true c31
         clear c31
         by_cases c32 : (rd l1_1 x5_2) = (rd l0_0 x5_2)
         ·
          rw [if_pos c32] at H
          have c32b0 : ((rd l1_1 x5_2) == (rd l0_0 x5_2)) = true := beq_iff_eq.mpr c32
          have c32b1 : ((rd l1_1 x5_2) != (rd l0_0 x5_2)) = false := bne_eq_false_iff_eq.mpr c32
          clear c32
          have H' := aM_ H
          clear H
          have hnb33 := NB112_113.out
          have hnc33 := NB113_112.out
          have hcz34_0 : wr.cell? ⟨gb112, 0, none⟩ = some (.slice A0_0 l0_0.length c0_0) := (bC_ BK112.out 0).trans rfl
          have hcz34_1 : wr.cell? ⟨gb112, 1, none⟩ = some (.bool a0_1) := (bC_ BK112.out 1).trans rfl
          have hcz34_2 : wr.cell? ⟨gb112, 2, none⟩ = some (.string a0_2) := (bC_ BK112.out 2).trans rfl
          have hcz34_3 : wr.cell? ⟨gb112, 3, none⟩ = some (.string a0_3) := (bC_ BK112.out 3).trans rfl
          have hfz34_0 := bF_ BK112.out 0
          have hfz34_1 := bF_ BK112.out 1
          have hfz34_2 := bF_ BK112.out 2
          have hfz34_3 := bF_ BK112.out 3
          try go_wp2
          have n0_ := aM_ (bD_ BK112.out)
          have n1_ := aM_ (bD_ BK113.out)
          have n2_ := aM_ (bE_ HB.out)
          clear BK112
          clear BK113
          clear HB
          have BK112 := n0_
          have BK113 := n1_
          have HB := n2_
          clear n0_ n1_ n2_
          have p117 : 0 ≤ (x5_2 : Int) := of_decide_eq_true (by first | (with_reducible assumption) | assumption)
          have q117 : x5_2 < (l1_1.length : Int) := of_decide_eq_true (by first | (with_reducible assumption) | assumption)
          obtain ⟨ad117, e117, hx117_0⟩ := Kd.at_int HR1_1.out x5_2 p117 q117
          have hw117_0 := hx117_0
          cases e117
          replace hx117_0 := (HB.out.cell (World.block_lt_of_cell? w _ hx117_0)).trans hx117_0
          replace p117 := eq_true p117
          replace q117 := eq_true q117
          have p118 : 0 ≤ (x5_2 : Int) := of_decide_eq_true (by first | (with_reducible assumption) | assumption)
          have q118 : x5_2 < (l0_0.length : Int) := of_decide_eq_true (by first | (with_reducible assumption) | assumption)
          obtain ⟨ad118, e118, hx118_0⟩ := Kd.at_int HR0_0.out x5_2 p118 q118
          have hw118_0 := hx118_0
          cases e118
          replace hx118_0 := (HB.out.cell (World.block_lt_of_cell? w _ hx118_0)).trans hx118_0
          replace p118 := eq_true p118
          replace q118 := eq_true q118
          refine start_ (n := 11) (S := fun w' => w'.cell? ⟨gb113, 0, none⟩ = some (.bool a1_0) ∧ w'.cell? ⟨gb113, 1, none⟩ = some (.slice (some ad117) l1_1.length c1_1) ∧ w'.cell? ⟨gb113, 2, none⟩ = some (.string a1_2) ∧ w'.cell? ⟨gb113, 3, none⟩ = some (.string a1_3) ∧ w'.cell? ⟨gb113, 4, none⟩ = some (.string a1_4) ∧ w'.cell? ⟨gb113, 5, none⟩ = some (.int .u64 a1_5) ∧ w'.cell? ⟨gb113, 6, none⟩ = some (.int .u64 a1_6) ∧ w'.cell? ⟨gb113, 7, none⟩ = some (.int .u64 a1_7) ∧ w'.cell? ⟨gb112, 0, none⟩ = some (.slice (some ad118) l0_0.length c0_0) ∧ w'.cell? ⟨gb112, 1, none⟩ = some (.bool a0_1) ∧ w'.cell? ⟨gb112, 2, none⟩ = some (.string a0_2) ∧ w'.cell? ⟨gb112, 3, none⟩ = some (.string a0_3) ∧ w'.cell? (ad117.add (x5_2).toNat) = some (.int .u64 (rd l1_1 x5_2)) ∧ w'.cell? (ad118.add (x5_2).toNat) = some (.int .u64 (rd l0_0 x5_2))) (ds := []) #[false, false, false, false, false, false, false, false, false, false, false] (by kernel_rfl) rfl rfl ⟨(bC_ BK113.out 0).trans rfl, (bC_ BK113.out 1).trans rfl, (bC_ BK113.out 2).trans rfl, (bC_ BK113.out 3).trans rfl, (bC_ BK113.out 4).trans rfl, (bC_ BK113.out 5).trans rfl, (bC_ BK113.out 6).trans rfl, (bC_ BK113.out 7).trans rfl, (bC_ BK112.out 0).trans rfl, (bC_ BK112.out 1).trans rfl, (bC_ BK112.out 2).trans rfl, (bC_ BK112.out 3).trans rfl, ((HB.out.cell (World.block_lt_of_cell? w _ hw117_0)).trans hw117_0), ((HB.out.cell (World.block_lt_of_cell? w _ hw118_0)).trans hw118_0)⟩ (fun hHeld => ?_); refine with_tabW spec_SameVer.tab6 spec_SameVer.bits6 (fun HT_ HW_ => ?_)
          generalize wr.drew = w35 at BK112 BK113 HB hx117_0 hx118_0 hHeld ⊢
          refine pure_ (i := 0) (N := some 60) (v := ?_) (a' := ?_) #[true, false, false, false, false, false, false, false, false, false, false] rfl rfl (any_of HT_.out (by kernel_rfl)) (fun _ _ _ h => h) (Or.inl ⟨by rfl, ?_⟩) ?_ ?_
          rotate_left
          ·
           intro w'
           go_simp
           with_reducible rfl
          rotate_left
          ·
           simp only [Act.put, List.setIfInBounds_toArray, List.set_cons_zero, List.set_cons_succ, i64_w, i32_w]
           rfl
          refine pure_ (i := 2) (N := some 62) (v := ?_) (a' := ?_) #[true, false, true, false, false, false, false, false, false, false, false] rfl rfl (any_of HT_.out (by kernel_rfl)) (fun _ _ _ h => h) (Or.inl ⟨by rfl, ?_⟩) ?_ ?_
          rotate_left
          ·
           intro w'
           go_simp
           with_reducible rfl
          rotate_left
          ·
           simp only [Act.put, List.setIfInBounds_toArray, List.set_cons_zero, List.set_cons_succ, i64_w, i32_w]
           rfl
          refine pure_ (i := 5) (N := some 65) (v := ?_) (a' := ?_) #[true, false, true, false, false, true, false, false, false, false, false] rfl rfl (any_of HT_.out (by kernel_rfl)) (fun _ _ _ h => h) (Or.inl ⟨by rfl, ?_⟩) ?_ ?_
          rotate_left
          ·
           intro w'
           go_simp
           with_reducible rfl
          rotate_left
          ·
           simp only [Act.put, List.setIfInBounds_toArray, List.set_cons_zero, List.set_cons_succ, i64_w, i32_w]
           rfl
          refine pure_ (i := 7) (N := some 67) (v := ?_) (a' := ?_) #[true, false, true, false, false, true, false, true, false, false, false] rfl rfl (any_of HT_.out (by kernel_rfl)) (fun _ _ _ h => h) (Or.inl ⟨by rfl, ?_⟩) ?_ ?_
          rotate_left
          ·
           intro w'
           go_simp
           with_reducible rfl
          rotate_left
          ·
           simp only [Act.put, List.setIfInBounds_toArray, List.set_cons_zero, List.set_cons_succ, i64_w, i32_w]
           rfl
          refine take_ (i := 1) (N := some 61) (v := ?_) (a' := ?_) #[true, true, true, false, false, true, false, true, false, false, false] rfl rfl (take_ofW HT_.out HW_.out (by kernel_rfl)) (fun _ _ _ h => h) (Or.inl ⟨by rfl, ?_⟩) hHeld ?_ ?_
          rotate_left
          ·
           rintro w' ⟨s0, s1, s2, s3, s4, s5, s6, s7, s8, s9, s10, s11, s12, s13⟩
           go_simp
           with_reducible rfl
          rotate_left
          ·
           simp only [Act.put, List.setIfInBounds_toArray, List.set_cons_zero, List.set_cons_succ, i64_w, i32_w]
           rfl
          refine pure_ (i := 3) (N := some 63) (v := ?_) (a' := ?_) #[true, true, true, true, false, true, false, true, false, false, false] rfl rfl (any_of HT_.out (by kernel_rfl)) (fun _ _ _ h => h) (Or.inl ⟨by rfl, ?_⟩) ?_ ?_
          rotate_left
          ·
           intro w'
           go_simp
           with_reducible rfl
          rotate_left
          ·
           simp only [Act.put, List.setIfInBounds_toArray, List.set_cons_zero, List.set_cons_succ, i64_w, i32_w]
           rfl
          refine take_ (i := 4) (N := some 64) (v := ?_) (a' := ?_) #[true, true, true, true, true, true, false, true, false, false, false] rfl rfl (take_ofW HT_.out HW_.out (by kernel_rfl)) (fun _ _ _ h => h) (Or.inl ⟨by rfl, ?_⟩) hHeld ?_ ?_
          rotate_left
          ·
           rintro w' ⟨s0, s1, s2, s3, s4, s5, s6, s7, s8, s9, s10, s11, s12, s13⟩
           go_simp
           with_reducible rfl
          rotate_left
          ·
           simp only [Act.put, List.setIfInBounds_toArray, List.set_cons_zero, List.set_cons_succ, i64_w, i32_w]
           rfl
          refine take_ (i := 6) (N := some 66) (v := ?_) (a' := ?_) #[true, true, true, true, true, true, true, true, false, false, false] rfl rfl (take_ofW HT_.out HW_.out (by kernel_rfl)) (fun _ _ _ h => h) (Or.inl ⟨by rfl, ?_⟩) hHeld ?_ ?_
          rotate_left
          ·
           rintro w' ⟨s0, s1, s2, s3, s4, s5, s6, s7, s8, s9, s10, s11, s12, s13⟩
           go_simp
           with_reducible rfl
          rotate_left
          ·
           simp only [Act.put, List.setIfInBounds_toArray, List.set_cons_zero, List.set_cons_succ, i64_w, i32_w]
           rfl
          refine pure_ (i := 8) (N := some 68) (v := ?_) (a' := ?_) #[true, true, true, true, true, true, true, true, true, false, false] rfl rfl (any_of HT_.out (by kernel_rfl)) (fun _ _ _ h => h) (Or.inl ⟨by rfl, ?_⟩) ?_ ?_
          rotate_left
          ·
           intro w'
           go_simp
           with_reducible rfl
          rotate_left
          ·
           simp only [Act.put, List.setIfInBounds_toArray, List.set_cons_zero, List.set_cons_succ, i64_w, i32_w]
           rfl
          refine take_ (i := 9) (N := some 69) (v := ?_) (a' := ?_) #[true, true, true, true, true, true, true, true, true, true, false] rfl rfl (take_ofW HT_.out HW_.out (by kernel_rfl)) (fun _ _ _ h => h) (Or.inl ⟨by rfl, ?_⟩) hHeld ?_ ?_
          rotate_left
          ·
           rintro w' ⟨s0, s1, s2, s3, s4, s5, s6, s7, s8, s9, s10, s11, s12, s13⟩
           go_simp
           with_reducible rfl
          rotate_left
          ·
           simp only [Act.put, List.setIfInBounds_toArray, List.set_cons_zero, List.set_cons_succ, i64_w, i32_w]
           rfl
          refine pure_ (i := 10) (N := some 70) (v := ?_) (a' := ?_) #[true, true, true, true, true, true, true, true, true, true, true] rfl rfl (any_of HT_.out (by kernel_rfl)) (fun _ _ _ h => h) (Or.inl ⟨by rfl, ?_⟩) ?_ ?_
          rotate_left
          ·
           intro w'
           go_simp
           with_reducible rfl
          rotate_left
          ·
           simp only [Act.put, List.setIfInBounds_toArray, List.set_cons_zero, List.set_cons_succ, i64_w, i32_w]
           rfl
          refine done_ (done_of HT_.out (by kernel_rfl)) ?_
          try go_wp2
          go_roundg k2
          case measure => have := HJ2.out; have := HK2.out; omega
          case rel => exact ⟨(wrap64 (x5_2 + 1)), (by first | rfl | (simp; done) | (simp [*]; done)), H', ⟨by have := HJ2.out; have := HK2.out; omega⟩, ⟨by (with_reducible repeat (first | refine bN_ ?_ _ | refine bD_ ?_ | refine bA_ ?_ _)); exact BK112.out⟩, ⟨by (with_reducible repeat (first | refine bN_ ?_ _ | refine bD_ ?_ | refine bA_ ?_ _)); exact BK113.out⟩, ⟨by repeat (first | (with_reducible first | exact HB.out | apply bB_ | apply wN_ | apply bE_ | refine bS_ ?_ GE112.out | refine bS_ ?_ GE113.out) | exact HB.out)⟩⟩
         ·
          rw [if_neg c32] at H
          have c32b0 : ((rd l1_1 x5_2) == (rd l0_0 x5_2)) = false := beq_eq_false_iff_ne.mpr c32
          have c32b1 : ((rd l1_1 x5_2) != (rd l0_0 x5_2)) = true := bne_iff_ne.mpr c32
          obtain rfl := Option.some.inj H
          have hnb36 := NB112_113.out
          have hnc36 := NB113_112.out
          have hcz37_0 : wr.cell? ⟨gb112, 0, none⟩ = some (.slice A0_0 l0_0.length c0_0) := (bC_ BK112.out 0).trans rfl
          have hcz37_1 : wr.cell? ⟨gb112, 1, none⟩ = some (.bool a0_1) := (bC_ BK112.out 1).trans rfl
          have hcz37_2 : wr.cell? ⟨gb112, 2, none⟩ = some (.string a0_2) := (bC_ BK112.out 2).trans rfl
          have hcz37_3 : wr.cell? ⟨gb112, 3, none⟩ = some (.string a0_3) := (bC_ BK112.out 3).trans rfl
          have hfz37_0 := bF_ BK112.out 0
          have hfz37_1 := bF_ BK112.out 1
          have hfz37_2 := bF_ BK112.out 2
          have hfz37_3 := bF_ BK112.out 3
          try go_wp2
          have n0_ := aM_ (bD_ BK112.out)
          have n1_ := aM_ (bD_ BK113.out)
          have n2_ := aM_ (bE_ HB.out)
          clear BK112
          clear BK113
          clear HB
          have BK112 := n0_
          have BK113 := n1_
          have HB := n2_
          clear n0_ n1_ n2_
          have p117 : 0 ≤ (x5_2 : Int) := of_decide_eq_true (by first | (with_reducible assumption) | assumption)
          have q117 : x5_2 < (l1_1.length : Int) := of_decide_eq_true (by first | (with_reducible assumption) | assumption)
          obtain ⟨ad117, e117, hx117_0⟩ := Kd.at_int HR1_1.out x5_2 p117 q117
          have hw117_0 := hx117_0
          cases e117
          replace hx117_0 := (HB.out.cell (World.block_lt_of_cell? w _ hx117_0)).trans hx117_0
          replace p117 := eq_true p117
          replace q117 := eq_true q117
          have p118 : 0 ≤ (x5_2 : Int) := of_decide_eq_true (by first | (with_reducible assumption) | assumption)
          have q118 : x5_2 < (l0_0.length : Int) := of_decide_eq_true (by first | (with_reducible assumption) | assumption)
          obtain ⟨ad118, e118, hx118_0⟩ := Kd.at_int HR0_0.out x5_2 p118 q118
          have hw118_0 := hx118_0
          cases e118
          replace hx118_0 := (HB.out.cell (World.block_lt_of_cell? w _ hx118_0)).trans hx118_0
          replace p118 := eq_true p118
          replace q118 := eq_true q118
          refine start_ (n := 11) (S := fun w' => w'.cell? ⟨gb113, 0, none⟩ = some (.bool a1_0) ∧ w'.cell? ⟨gb113, 1, none⟩ = some (.slice (some ad117) l1_1.length c1_1) ∧ w'.cell? ⟨gb113, 2, none⟩ = some (.string a1_2) ∧ w'.cell? ⟨gb113, 3, none⟩ = some (.string a1_3) ∧ w'.cell? ⟨gb113, 4, none⟩ = some (.string a1_4) ∧ w'.cell? ⟨gb113, 5, none⟩ = some (.int .u64 a1_5) ∧ w'.cell? ⟨gb113, 6, none⟩ = some (.int .u64 a1_6) ∧ w'.cell? ⟨gb113, 7, none⟩ = some (.int .u64 a1_7) ∧ w'.cell? ⟨gb112, 0, none⟩ = some (.slice (some ad118) l0_0.length c0_0) ∧ w'.cell? ⟨gb112, 1, none⟩ = some (.bool a0_1) ∧ w'.cell? ⟨gb112, 2, none⟩ = some (.string a0_2) ∧ w'.cell? ⟨gb112, 3, none⟩ = some (.string a0_3) ∧ w'.cell? (ad117.add (x5_2).toNat) = some (.int .u64 (rd l1_1 x5_2)) ∧ w'.cell? (ad118.add (x5_2).toNat) = some (.int .u64 (rd l0_0 x5_2))) (ds := []) #[false, false, false, false, false, false, false, false, false, false, false] (by kernel_rfl) rfl rfl ⟨(bC_ BK113.out 0).trans rfl, (bC_ BK113.out 1).trans rfl, (bC_ BK113.out 2).trans rfl, (bC_ BK113.out 3).trans rfl, (bC_ BK113.out 4).trans rfl, (bC_ BK113.out 5).trans rfl, (bC_ BK113.out 6).trans rfl, (bC_ BK113.out 7).trans rfl, (bC_ BK112.out 0).trans rfl, (bC_ BK112.out 1).trans rfl, (bC_ BK112.out 2).trans rfl, (bC_ BK112.out 3).trans rfl, ((HB.out.cell (World.block_lt_of_cell? w _ hw117_0)).trans hw117_0), ((HB.out.cell (World.block_lt_of_cell? w _ hw118_0)).trans hw118_0)⟩ (fun hHeld => ?_); refine with_tabW spec_SameVer.tab6 spec_SameVer.bits6 (fun HT_ HW_ => ?_)
          generalize wr.drew = w38 at BK112 BK113 HB hx117_0 hx118_0 hHeld ⊢
          refine pure_ (i := 0) (N := some 60) (v := ?_) (a' := ?_) #[true, false, false, false, false, false, false, false, false, false, false] rfl rfl (any_of HT_.out (by kernel_rfl)) (fun _ _ _ h => h) (Or.inl ⟨by rfl, ?_⟩) ?_ ?_
          rotate_left
          ·
           intro w'
           go_simp
           with_reducible rfl
          rotate_left
          ·
           simp only [Act.put, List.setIfInBounds_toArray, List.set_cons_zero, List.set_cons_succ, i64_w, i32_w]
           rfl
          refine pure_ (i := 2) (N := some 62) (v := ?_) (a' := ?_) #[true, false, true, false, false, false, false, false, false, false, false] rfl rfl (any_of HT_.out (by kernel_rfl)) (fun _ _ _ h => h) (Or.inl ⟨by rfl, ?_⟩) ?_ ?_
          rotate_left
          ·
           intro w'
           go_simp
           with_reducible rfl
          rotate_left
          ·
           simp only [Act.put, List.setIfInBounds_toArray, List.set_cons_zero, List.set_cons_succ, i64_w, i32_w]
           rfl
          refine pure_ (i := 5) (N := some 65) (v := ?_) (a' := ?_) #[true, false, true, false, false, true, false, false, false, false, false] rfl rfl (any_of HT_.out (by kernel_rfl)) (fun _ _ _ h => h) (Or.inl ⟨by rfl, ?_⟩) ?_ ?_
          rotate_left
          ·
           intro w'
           go_simp
           with_reducible rfl
          rotate_left
          ·
           simp only [Act.put, List.setIfInBounds_toArray, List.set_cons_zero, List.set_cons_succ, i64_w, i32_w]
           rfl
          refine pure_ (i := 7) (N := some 67) (v := ?_) (a' := ?_) #[true, false, true, false, false, true, false, true, false, false, false] rfl rfl (any_of HT_.out (by kernel_rfl)) (fun _ _ _ h => h) (Or.inl ⟨by rfl, ?_⟩) ?_ ?_
          rotate_left
          ·
           intro w'
           go_simp
           with_reducible rfl
          rotate_left
          ·
           simp only [Act.put, List.setIfInBounds_toArray, List.set_cons_zero, List.set_cons_succ, i64_w, i32_w]
           rfl
          refine take_ (i := 1) (N := some 61) (v := ?_) (a' := ?_) #[true, true, true, false, false, true, false, true, false, false, false] rfl rfl (take_ofW HT_.out HW_.out (by kernel_rfl)) (fun _ _ _ h => h) (Or.inl ⟨by rfl, ?_⟩) hHeld ?_ ?_
          rotate_left
          ·
           rintro w' ⟨s0, s1, s2, s3, s4, s5, s6, s7, s8, s9, s10, s11, s12, s13⟩
           go_simp
           with_reducible rfl
          rotate_left
          ·
           simp only [Act.put, List.setIfInBounds_toArray, List.set_cons_zero, List.set_cons_succ, i64_w, i32_w]
           rfl
          refine pure_ (i := 3) (N := some 63) (v := ?_) (a' := ?_) #[true, true, true, true, false, true, false, true, false, false, false] rfl rfl (any_of HT_.out (by kernel_rfl)) (fun _ _ _ h => h) (Or.inl ⟨by rfl, ?_⟩) ?_ ?_
          rotate_left
          ·
           intro w'
           go_simp
           with_reducible rfl
          rotate_left
          ·
           simp only [Act.put, List.setIfInBounds_toArray, List.set_cons_zero, List.set_cons_succ, i64_w, i32_w]
           rfl
          refine take_ (i := 4) (N := some 64) (v := ?_) (a' := ?_) #[true, true, true, true, true, true, false, true, false, false, false] rfl rfl (take_ofW HT_.out HW_.out (by kernel_rfl)) (fun _ _ _ h => h) (Or.inl ⟨by rfl, ?_⟩) hHeld ?_ ?_
          rotate_left
          ·
           rintro w' ⟨s0, s1, s2, s3, s4, s5, s6, s7, s8, s9, s10, s11, s12, s13⟩
           go_simp
           with_reducible rfl
          rotate_left
          ·
           simp only [Act.put, List.setIfInBounds_toArray, List.set_cons_zero, List.set_cons_succ, i64_w, i32_w]
           rfl
          refine take_ (i := 6) (N := some 66) (v := ?_) (a' := ?_) #[true, true, true, true, true, true, true, true, false, false, false] rfl rfl (take_ofW HT_.out HW_.out (by kernel_rfl)) (fun _ _ _ h => h) (Or.inl ⟨by rfl, ?_⟩) hHeld ?_ ?_
          rotate_left
          ·
           rintro w' ⟨s0, s1, s2, s3, s4, s5, s6, s7, s8, s9, s10, s11, s12, s13⟩
           go_simp
           with_reducible rfl
          rotate_left
          ·
           simp only [Act.put, List.setIfInBounds_toArray, List.set_cons_zero, List.set_cons_succ, i64_w, i32_w]
           rfl
          refine pure_ (i := 8) (N := some 68) (v := ?_) (a' := ?_) #[true, true, true, true, true, true, true, true, true, false, false] rfl rfl (any_of HT_.out (by kernel_rfl)) (fun _ _ _ h => h) (Or.inl ⟨by rfl, ?_⟩) ?_ ?_
          rotate_left
          ·
           intro w'
           go_simp
           with_reducible rfl
          rotate_left
          ·
           simp only [Act.put, List.setIfInBounds_toArray, List.set_cons_zero, List.set_cons_succ, i64_w, i32_w]
           rfl
          refine take_ (i := 9) (N := some 69) (v := ?_) (a' := ?_) #[true, true, true, true, true, true, true, true, true, true, false] rfl rfl (take_ofW HT_.out HW_.out (by kernel_rfl)) (fun _ _ _ h => h) (Or.inl ⟨by rfl, ?_⟩) hHeld ?_ ?_
          rotate_left
          ·
           rintro w' ⟨s0, s1, s2, s3, s4, s5, s6, s7, s8, s9, s10, s11, s12, s13⟩
           go_simp
           with_reducible rfl
          rotate_left
          ·
           simp only [Act.put, List.setIfInBounds_toArray, List.set_cons_zero, List.set_cons_succ, i64_w, i32_w]
           rfl
          refine pure_ (i := 10) (N := some 70) (v := ?_) (a' := ?_) #[true, true, true, true, true, true, true, true, true, true, true] rfl rfl (any_of HT_.out (by kernel_rfl)) (fun _ _ _ h => h) (Or.inl ⟨by rfl, ?_⟩) ?_ ?_
          rotate_left
          ·
           intro w'
           go_simp
           with_reducible rfl
          rotate_left
          ·
           simp only [Act.put, List.setIfInBounds_toArray, List.set_cons_zero, List.set_cons_succ, i64_w, i32_w]
           rfl
          refine done_ (done_of HT_.out (by kernel_rfl)) ?_
          try go_wp2
          go_ret
          exact ⟨by first | rfl | (simp [errW_none, errW_some] <;> rfl) | (simp [*, errW_none, errW_some] <;> rfl) | (exfalso; contradiction), by repeat (first | (with_reducible first | exact HB.out | apply bB_ | apply wN_ | apply bE_ | refine bS_ ?_ GE112.out | refine bS_ ?_ GE113.out) | exact HB.out)⟩
        ·
         rw [if_neg c31] at H
         exact absurd H (by simp)
       ·
        rw [if_neg c30] at H
        exact absurd H (by simp)
      ·
       rw [if_neg c29] at H
       have c29b0 : decide (x5_2 < (l0_0.length : Int)) = false := decide_eq_false c29
       clear c29
       by_cases c39 : a0_1 = true
       ·
        subst c39
        have H1 : ((spec_Version_part.f l0_0 true a0_2 a0_3 2).bind fun t119 => (some (a1_7 == t119))) = some r := by rw [if_pos rfl] at H; exact H
        clear H
        have H := H1
        clear H1
        replace H := Option.bind_eq_some_iff.mp H
        obtain ⟨t119, A400, H⟩ := H
        replace H : (some (a1_7 == t119)) = some r := H
        have A40 := aM_ A400
        clear A400
        obtain rfl := Option.some.inj H
        have hnb41 := NB112_113.out
        have hnc41 := NB113_112.out
        have hcz42_0 : wr.cell? ⟨gb112, 0, none⟩ = some (.slice A0_0 l0_0.length c0_0) := (bC_ BK112.out 0).trans rfl
        have hcz42_1 : wr.cell? ⟨gb112, 1, none⟩ = some (.bool true) := (bC_ BK112.out 1).trans rfl
        have hcz42_2 : wr.cell? ⟨gb112, 2, none⟩ = some (.string a0_2) := (bC_ BK112.out 2).trans rfl
        have hcz42_3 : wr.cell? ⟨gb112, 3, none⟩ = some (.string a0_3) := (bC_ BK112.out 3).trans rfl
        have hfz42_0 := bF_ BK112.out 0
        have hfz42_1 := bF_ BK112.out 1
        have hfz42_2 := bF_ BK112.out 2
        have hfz42_3 := bF_ BK112.out 3
        try go_wp2
        have n0_ := aM_ (bD_ BK112.out)
        have n1_ := aM_ (bD_ BK113.out)
        have n2_ := aM_ (bE_ HB.out)
        clear BK112
        clear BK113
        clear HB
        have BK112 := n0_
        have BK113 := n1_
        have HB := n2_
        clear n0_ n1_ n2_
        refine start_ (n := 17) (S := fun w' => w'.cell? ⟨gb112, 0, none⟩ = some (.slice A0_0 l0_0.length c0_0) ∧ w'.cell? ⟨gb112, 1, none⟩ = some (.bool true) ∧ w'.cell? ⟨gb112, 2, none⟩ = some (.string a0_2) ∧ w'.cell? ⟨gb112, 3, none⟩ = some (.string a0_3) ∧ w'.cell? ⟨gb113, 0, none⟩ = some (.bool a1_0) ∧ w'.cell? ⟨gb113, 1, none⟩ = some (.slice A1_1 l1_1.length c1_1) ∧ w'.cell? ⟨gb113, 2, none⟩ = some (.string a1_2) ∧ w'.cell? ⟨gb113, 3, none⟩ = some (.string a1_3) ∧ w'.cell? ⟨gb113, 4, none⟩ = some (.string a1_4) ∧ w'.cell? ⟨gb113, 5, none⟩ = some (.int .u64 a1_5) ∧ w'.cell? ⟨gb113, 6, none⟩ = some (.int .u64 a1_6) ∧ w'.cell? ⟨gb113, 7, none⟩ = some (.int .u64 a1_7)) (ds := []) mBits1 (by kernel_rfl) rfl rfl ⟨(bC_ BK112.out 0).trans rfl, (bC_ BK112.out 1).trans rfl, (bC_ BK112.out 2).trans rfl, (bC_ BK112.out 3).trans rfl, (bC_ BK113.out 0).trans rfl, (bC_ BK113.out 1).trans rfl, (bC_ BK113.out 2).trans rfl, (bC_ BK113.out 3).trans rfl, (bC_ BK113.out 4).trans rfl, (bC_ BK113.out 5).trans rfl, (bC_ BK113.out 6).trans rfl, (bC_ BK113.out 7).trans rfl⟩ (fun hHeld => ?_); refine with_tabW spec_SameVer.tab8 spec_SameVer.bits8 (fun HT_ HW_ => ?_)
        generalize wr.drew = w43 at BK112 BK113 HB hHeld ⊢
        refine pure_ (i := 0) (N := some 71) (v := ?_) (a' := ?_) mBits3 rfl rfl (any_of HT_.out (by kernel_rfl)) (fun _ _ _ h => h) (Or.inl ⟨by rfl, ?_⟩) ?_ ?_
        rotate_left
        ·
         intro w'
         go_simp
         with_reducible rfl
        rotate_left
        ·
         simp only [Act.put, List.setIfInBounds_toArray, List.set_cons_zero, List.set_cons_succ, i64_w, i32_w]
         rfl
        refine take_ (i := 1) (N := some 72) (v := ?_) (a' := ?_) mBits5 rfl rfl (take_ofW HT_.out HW_.out (by kernel_rfl)) (fun _ _ _ h => h) (Or.inl ⟨by rfl, ?_⟩) hHeld ?_ ?_
        rotate_left
        ·
         rintro w' ⟨s0, s1, s2, s3, s4, s5, s6, s7, s8, s9, s10, s11⟩
         go_simp
         with_reducible rfl
        rotate_left
        ·
         simp only [Act.put, List.setIfInBounds_toArray, List.set_cons_zero, List.set_cons_succ, i64_w, i32_w]
         rfl
        refine pure_ (i := 2) (N := some 73) (v := ?_) (a' := ?_) mBits7 rfl rfl (any_of HT_.out (by kernel_rfl)) (fun _ _ _ h => h) (Or.inl ⟨by rfl, ?_⟩) ?_ ?_
        rotate_left
        ·
         intro w'
         go_simp
         with_reducible rfl
        rotate_left
        ·
         simp only [Act.put, List.setIfInBounds_toArray, List.set_cons_zero, List.set_cons_succ, i64_w, i32_w]
         rfl
        refine pure_ (i := 3) (N := some 74) (v := ?_) (a' := ?_) mBits9 rfl rfl (any_of HT_.out (by kernel_rfl)) (fun _ _ _ h => h) (Or.inl ⟨by rfl, ?_⟩) ?_ ?_
        rotate_left
        ·
         intro w'
         go_simp
         with_reducible rfl
        rotate_left
        ·
         simp only [Act.put, List.setIfInBounds_toArray, List.set_cons_zero, List.set_cons_succ, i64_w, i32_w]
         rfl
        refine pure_ (i := 4) (N := some 75) (v := undef) (a' := ?_) mBits11 rfl rfl (any_of HT_.out (by kernel_rfl)) (fun _ _ _ h => h) (Or.inr ⟨by rfl, rfl⟩) ?_ ?_
        rotate_left
        ·
         simp only [Act.put, List.setIfInBounds_toArray, List.set_cons_zero, List.set_cons_succ, i64_w, i32_w]
         rfl
        refine pure_ (i := 5) (N := some 76) (v := undef) (a' := ?_) mBits14 rfl rfl (any_of HT_.out (by kernel_rfl)) (fun _ _ _ h => h) (Or.inr ⟨by rfl, rfl⟩) ?_ ?_
        rotate_left
        ·
         simp only [Act.put, List.setIfInBounds_toArray, List.set_cons_zero, List.set_cons_succ, i64_w, i32_w]
         rfl
        refine pure_ (i := 6) (N := some 77) (v := undef) (a' := ?_) mBits17 rfl rfl (any_of HT_.out (by kernel_rfl)) (fun _ _ _ h => h) (Or.inr ⟨by rfl, rfl⟩) ?_ ?_
        rotate_left
        ·
         simp only [Act.put, List.setIfInBounds_toArray, List.set_cons_zero, List.set_cons_succ, i64_w, i32_w]
         rfl
        refine pure_ (i := 7) (N := some 78) (v := undef) (a' := ?_) mBits19 rfl rfl (any_of HT_.out (by kernel_rfl)) (fun _ _ _ h => h) (Or.inr ⟨by rfl, rfl⟩) ?_ ?_
        rotate_left
        ·
         simp only [Act.put, List.setIfInBounds_toArray, List.set_cons_zero, List.set_cons_succ, i64_w, i32_w]
         rfl
        refine pure_ (i := 8) (N := some 79) (v := ?_) (a' := ?_) mBits21 rfl rfl (any_of HT_.out (by kernel_rfl)) (fun _ _ _ h => h) (Or.inl ⟨by rfl, ?_⟩) ?_ ?_
        rotate_left
        ·
         intro w'
         go_simp
         with_reducible rfl
        rotate_left
        ·
         simp only [Act.put, List.setIfInBounds_toArray, List.set_cons_zero, List.set_cons_succ, i64_w, i32_w]
         rfl
        refine pure_ (i := 9) (N := some 80) (v := ?_) (a' := ?_) mBits23 rfl rfl (any_of HT_.out (by kernel_rfl)) (fun _ _ _ h => h) (Or.inl ⟨by rfl, ?_⟩) ?_ ?_
        rotate_left
        ·
         intro w'
         go_simp
         with_reducible rfl
        rotate_left
        ·
         simp only [Act.put, List.setIfInBounds_toArray, List.set_cons_zero, List.set_cons_succ, i64_w, i32_w]
         rfl
        refine pure_ (i := 10) (N := some 81) (v := ?_) (a' := ?_) mBits25 rfl rfl (any_of HT_.out (by kernel_rfl)) (fun _ _ _ h => h) (Or.inl ⟨by rfl, ?_⟩) ?_ ?_
        rotate_left
        ·
         intro w'
         go_simp
         with_reducible rfl
        rotate_left
        ·
         simp only [Act.put, List.setIfInBounds_toArray, List.set_cons_zero, List.set_cons_succ, i64_w, i32_w]
         rfl
        refine take_ (i := 11) (N := some 82) (v := ?_) (a' := ?_) mBits27 rfl rfl (take_ofW HT_.out HW_.out (by kernel_rfl)) (fun _ _ _ h => h) (Or.inl ⟨by rfl, ?_⟩) hHeld ?_ ?_
        rotate_left
        ·
         rintro w' ⟨s0, s1, s2, s3, s4, s5, s6, s7, s8, s9, s10, s11⟩
         go_simp
         with_reducible rfl
        rotate_left
        ·
         simp only [Act.put, List.setIfInBounds_toArray, List.set_cons_zero, List.set_cons_succ, i64_w, i32_w]
         rfl
        refine take_ (i := 12) (N := some 83) (v := ?_) (a' := ?_) mBits29 rfl rfl (take_ofW HT_.out HW_.out (by kernel_rfl)) (fun _ _ _ h => h) (Or.inl ⟨by rfl, ?_⟩) hHeld ?_ ?_
        rotate_left
        ·
         rintro w' ⟨s0, s1, s2, s3, s4, s5, s6, s7, s8, s9, s10, s11⟩
         go_simp
         with_reducible rfl
        rotate_left
        ·
         simp only [Act.put, List.setIfInBounds_toArray, List.set_cons_zero, List.set_cons_succ, i64_w, i32_w]
         rfl
        refine one_ (i := 13) (N := some 84) mBits31 rfl rfl (one_of HT_.out (by kernel_rfl)) (by decide) (fun K hK => ?_)
        refine goes_ Tryd.func28 (by kernel_rfl) rfl #[.agg #[.slice A0_0 l0_0.length c0_0, .bool true, .string a0_2, .string a0_3], .int .i64 2] (by rfl) rfl rfl (by (try simp only [List.map_toArray, List.map_cons, List.map_nil]); first | done | rfl | (simp only [List.length_drop, List.length_take]; rfl)) ?_
        with_reducible refine (spec_Version_part.calls _ _ l0_0 true a0_2 a0_3 2 t119 _ ?side1 ?side2 A40.out).mono ?_
        (case side1 => repeat (first | exact (Kd.C_below HR0_0.out HB.out) | (with_reducible refine Kd.C_alloc ?_ _) | (with_reducible refine Kd.C_drewN ?_ _) | (with_reducible refine Kd.C_drew ?_)))
        (case side2 => exact HC0_0.out)
        rintro e w44 ⟨rfl, hb⟩
        refine ⟨_, rfl, ?_⟩
        have n0_ := aM_ (blk_below (g := gb112) (o := .cells #[.slice A0_0 l0_0.length c0_0, .bool true, .string a0_2, .string a0_3] 26 (0, 0)) (by (with_reducible repeat (first | refine bN_ ?_ _ | refine bD_ ?_ | refine bA_ ?_ _)); exact BK112.out) hb)
        have n1_ := aM_ (blk_below (g := gb113) (o := .cells #[.bool a1_0, .slice A1_1 l1_1.length c1_1, .string a1_2, .string a1_3, .string a1_4, .int .u64 a1_5, .int .u64 a1_6, .int .u64 a1_7] 28 (0, 0)) (by (with_reducible repeat (first | refine bN_ ?_ _ | refine bD_ ?_ | refine bA_ ?_ _)); exact BK113.out) hb)
        have n2_ := aM_ (below_step (by repeat (first | (with_reducible first | exact HB.out | apply bB_ | apply wN_ | apply bE_ | refine bS_ ?_ GE112.out | refine bS_ ?_ GE113.out) | exact HB.out)) hb)
        clear BK112
        clear BK113
        clear HB
        have BK112 := n0_
        have BK113 := n1_
        have HB := n2_
        clear n0_ n1_ n2_
        (try clear hb)
        (try clear hb2)
        (try clear hk)
        (try clear hi)
        refine hK.out _ _ ⟨(bC_ BK112.out 0).trans rfl, (bC_ BK112.out 1).trans rfl, (bC_ BK112.out 2).trans rfl, (bC_ BK112.out 3).trans rfl, (bC_ BK113.out 0).trans rfl, (bC_ BK113.out 1).trans rfl, (bC_ BK113.out 2).trans rfl, (bC_ BK113.out 3).trans rfl, (bC_ BK113.out 4).trans rfl, (bC_ BK113.out 5).trans rfl, (bC_ BK113.out 6).trans rfl, (bC_ BK113.out 7).trans rfl⟩ (fun hHeld => ?_)
        clear hK K
        refine norm_ (a' := ?_) ?_ ?_
        rotate_left
        ·
         show Act.put _ (some 84) _ = _
         simp only [Act.put, List.setIfInBounds_toArray, List.set_cons_zero, List.set_cons_succ, i64_w, i32_w]
         rfl
        refine pure_ (i := 14) (N := some 85) (v := ?_) (a' := ?_) mBits34 rfl rfl (any_of HT_.out (by kernel_rfl)) (fun _ _ _ h => h) (Or.inl ⟨by rfl, ?_⟩) ?_ ?_
        rotate_left
        ·
         intro w'
         go_simp
         with_reducible rfl
        rotate_left
        ·
         simp only [Act.put, List.setIfInBounds_toArray, List.set_cons_zero, List.set_cons_succ, i64_w, i32_w]
         rfl
        refine pure_ (i := 15) (N := some 86) (v := ?_) (a' := ?_) mBits36 rfl rfl (any_of HT_.out (by kernel_rfl)) (fun _ _ _ h => h) (Or.inl ⟨by rfl, ?_⟩) ?_ ?_
        rotate_left
        ·
         intro w'
         go_simp
         with_reducible rfl
        rotate_left
        ·
         simp only [Act.put, List.setIfInBounds_toArray, List.set_cons_zero, List.set_cons_succ, i64_w, i32_w]
         rfl
        refine pure_ (i := 16) (N := some 4) (v := ?_) (a' := ?_) mBits69 rfl rfl (any_of HT_.out (by kernel_rfl)) (fun _ _ _ h => h) (Or.inl ⟨by rfl, ?_⟩) ?_ ?_
        rotate_left
        ·
         intro w'
         go_simp
         with_reducible rfl
        rotate_left
        ·
         simp only [Act.put, List.setIfInBounds_toArray, List.set_cons_zero, List.set_cons_succ, i64_w, i32_w]
         rfl
        refine done_ (done_of HT_.out (by kernel_rfl)) ?_
        try go_wp2
        go_ret
        exact ⟨by first | rfl | (simp [errW_none, errW_some] <;> rfl) | (simp [*, errW_none, errW_some] <;> rfl) | (exfalso; contradiction), by repeat (first | (with_reducible first | exact HB.out | apply bB_ | apply wN_ | apply bE_ | refine bS_ ?_ GE112.out | refine bS_ ?_ GE113.out) | exact HB.out)⟩
       ·
        replace c39 := Bool.eq_false_iff.mpr c39
        subst c39
        have H1 : (if (l0_0.length : Int) > 2 then (some true) else ((spec_Version_part.f l0_0 false a0_2 a0_3 2).bind fun t120 => (some (a1_7 == t120)))) = some r := by rw [if_neg (show ¬ (false = true) by decide)] at H; exact H
        clear H
        have H := H1
        clear H1
        by_cases c45 : (l0_0.length : Int) > 2
        ·
         rw [if_pos c45] at H
         have c45b0 : decide (2 < (l0_0.length : Int)) = true := decide_eq_true c45
         have c45b1 : decide (2 < l0_0.length) = true := decide_eq_true (by omega)
         clear c45
         obtain rfl := Option.some.inj H
         have hnb46 := NB112_113.out
         have hnc46 := NB113_112.out
         have hcz47_0 : wr.cell? ⟨gb112, 0, none⟩ = some (.slice A0_0 l0_0.length c0_0) := (bC_ BK112.out 0).trans rfl
         have hcz47_1 : wr.cell? ⟨gb112, 1, none⟩ = some (.bool false) := (bC_ BK112.out 1).trans rfl
         have hcz47_2 : wr.cell? ⟨gb112, 2, none⟩ = some (.string a0_2) := (bC_ BK112.out 2).trans rfl
         have hcz47_3 : wr.cell? ⟨gb112, 3, none⟩ = some (.string a0_3) := (bC_ BK112.out 3).trans rfl
         have hfz47_0 := bF_ BK112.out 0
         have hfz47_1 := bF_ BK112.out 1
         have hfz47_2 := bF_ BK112.out 2
         have hfz47_3 := bF_ BK112.out 3
         try go_wp2
         have n0_ := aM_ (bD_ BK112.out)
         have n1_ := aM_ (bD_ BK113.out)
         have n2_ := aM_ (bE_ HB.out)
         clear BK112
         clear BK113
         clear HB
         have BK112 := n0_
         have BK113 := n1_
         have HB := n2_
         clear n0_ n1_ n2_
         refine start_ (n := 17) (S := fun w' => w'.cell? ⟨gb112, 0, none⟩ = some (.slice A0_0 l0_0.length c0_0) ∧ w'.cell? ⟨gb112, 1, none⟩ = some (.bool false) ∧ w'.cell? ⟨gb112, 2, none⟩ = some (.string a0_2) ∧ w'.cell? ⟨gb112, 3, none⟩ = some (.string a0_3)) (ds := []) mBits1 (by kernel_rfl) rfl rfl ⟨(bC_ BK112.out 0).trans rfl, (bC_ BK112.out 1).trans rfl, (bC_ BK112.out 2).trans rfl, (bC_ BK112.out 3).trans rfl⟩ (fun hHeld => ?_); refine with_tabW spec_SameVer.tab8 spec_SameVer.bits8 (fun HT_ HW_ => ?_)
         generalize wr.drew = w48 at BK112 BK113 HB hHeld ⊢
         refine pure_ (i := 0) (N := some 71) (v := ?_) (a' := ?_) mBits3 rfl rfl (any_of HT_.out (by kernel_rfl)) (fun _ _ _ h => h) (Or.inl ⟨by rfl, ?_⟩) ?_ ?_
         rotate_left
         ·
          intro w'
          go_simp
          with_reducible rfl
         rotate_left
         ·
          simp only [Act.put, List.setIfInBounds_toArray, List.set_cons_zero, List.set_cons_succ, i64_w, i32_w]
          rfl
         refine take_ (i := 1) (N := some 72) (v := ?_) (a' := ?_) mBits5 rfl rfl (take_ofW HT_.out HW_.out (by kernel_rfl)) (fun _ _ _ h => h) (Or.inl ⟨by rfl, ?_⟩) hHeld ?_ ?_
         rotate_left
         ·
          rintro w' ⟨s0, s1, s2, s3⟩
          go_simp
          with_reducible rfl
         rotate_left
         ·
          simp only [Act.put, List.setIfInBounds_toArray, List.set_cons_zero, List.set_cons_succ, i64_w, i32_w]
          rfl
         refine pure_ (i := 2) (N := some 73) (v := ?_) (a' := ?_) mBits7 rfl rfl (any_of HT_.out (by kernel_rfl)) (fun _ _ _ h => h) (Or.inl ⟨by rfl, ?_⟩) ?_ ?_
         rotate_left
         ·
          intro w'
          go_simp
          with_reducible rfl
         rotate_left
         ·
          simp only [Act.put, List.setIfInBounds_toArray, List.set_cons_zero, List.set_cons_succ, i64_w, i32_w]
          rfl
         refine pure_ (i := 3) (N := some 74) (v := ?_) (a' := ?_) mBits9 rfl rfl (any_of HT_.out (by kernel_rfl)) (fun _ _ _ h => h) (Or.inl ⟨by rfl, ?_⟩) ?_ ?_
         rotate_left
         ·
          intro w'
          go_simp
          with_reducible rfl
         rotate_left
         ·
          simp only [Act.put, List.setIfInBounds_toArray, List.set_cons_zero, List.set_cons_succ, i64_w, i32_w]
          rfl
         refine pure_ (i := 4) (N := some 75) (v := ?_) (a' := ?_) mBits11 rfl rfl (any_of HT_.out (by kernel_rfl)) (fun _ _ _ h => h) (Or.inl ⟨by rfl, ?_⟩) ?_ ?_
         rotate_left
         ·
          intro w'
          go_simp
          with_reducible rfl
         rotate_left
         ·
          simp only [Act.put, List.setIfInBounds_toArray, List.set_cons_zero, List.set_cons_succ, i64_w, i32_w]
          rfl
         refine take_ (i := 5) (N := some 76) (v := ?_) (a' := ?_) mBits14 rfl rfl (take_ofW HT_.out HW_.out (by kernel_rfl)) (fun _ _ _ h => h) (Or.inl ⟨by rfl, ?_⟩) hHeld ?_ ?_
         rotate_left
         ·
          rintro w' ⟨s0, s1, s2, s3⟩
          go_simp
          with_reducible rfl
         rotate_left
         ·
          simp only [Act.put, List.setIfInBounds_toArray, List.set_cons_zero, List.set_cons_succ, i64_w, i32_w]
          rfl
         refine pure_ (i := 6) (N := some 77) (v := ?_) (a' := ?_) mBits17 rfl rfl (any_of HT_.out (by kernel_rfl)) (fun _ _ _ h => h) (Or.inl ⟨by rfl, ?_⟩) ?_ ?_
         rotate_left
         ·
          intro w'
          go_simp
          with_reducible rfl
         rotate_left
         ·
          simp only [Act.put, List.setIfInBounds_toArray, List.set_cons_zero, List.set_cons_succ, i64_w, i32_w]
          rfl
         refine pure_ (i := 7) (N := some 78) (v := ?_) (a' := ?_) mBits19 rfl rfl (any_of HT_.out (by kernel_rfl)) (fun _ _ _ h => h) (Or.inl ⟨by rfl, ?_⟩) ?_ ?_
         rotate_left
         ·
          intro w'
          go_simp
          with_reducible rfl
         rotate_left
         ·
          simp only [Act.put, List.setIfInBounds_toArray, List.set_cons_zero, List.set_cons_succ, i64_w, i32_w]
          rfl
         refine pure_ (i := 8) (N := some 79) (v := ?_) (a' := ?_) mBits21 rfl rfl (any_of HT_.out (by kernel_rfl)) (fun _ _ _ h => h) (Or.inl ⟨by rfl, ?_⟩) ?_ ?_
         rotate_left
         ·
          intro w'
          go_simp
          with_reducible rfl
         rotate_left
         ·
          simp only [Act.put, List.setIfInBounds_toArray, List.set_cons_zero, List.set_cons_succ, i64_w, i32_w]
          rfl
         refine pure_ (i := 9) (N := some 80) (v := ?_) (a' := ?_) mBits23 rfl rfl (any_of HT_.out (by kernel_rfl)) (fun _ _ _ h => h) (Or.inl ⟨by rfl, ?_⟩) ?_ ?_
         rotate_left
         ·
          intro w'
          go_simp
          with_reducible rfl
         rotate_left
         ·
          simp only [Act.put, List.setIfInBounds_toArray, List.set_cons_zero, List.set_cons_succ, i64_w, i32_w]
          rfl
         refine pure_ (i := 10) (N := some 81) (v := undef) (a' := ?_) mBits25 rfl rfl (any_of HT_.out (by kernel_rfl)) (fun _ _ _ h => h) (Or.inr ⟨by rfl, rfl⟩) ?_ ?_
         rotate_left
         ·
          simp only [Act.put, List.setIfInBounds_toArray, List.set_cons_zero, List.set_cons_succ, i64_w, i32_w]
          rfl
         refine pure_ (i := 11) (N := some 82) (v := undef) (a' := ?_) mBits27 rfl rfl (any_of HT_.out (by kernel_rfl)) (fun _ _ _ h => h) (Or.inr ⟨by rfl, rfl⟩) ?_ ?_
         rotate_left
         ·
          simp only [Act.put, List.setIfInBounds_toArray, List.set_cons_zero, List.set_cons_succ, i64_w, i32_w]
          rfl
         refine pure_ (i := 12) (N := some 83) (v := undef) (a' := ?_) mBits29 rfl rfl (any_of HT_.out (by kernel_rfl)) (fun _ _ _ h => h) (Or.inr ⟨by rfl, rfl⟩) ?_ ?_
         rotate_left
         ·
          simp only [Act.put, List.setIfInBounds_toArray, List.set_cons_zero, List.set_cons_succ, i64_w, i32_w]
          rfl
         refine pure_ (i := 13) (N := some 84) (v := undef) (a' := ?_) mBits31 rfl rfl (any_of HT_.out (by kernel_rfl)) (fun _ _ _ h => h) (Or.inr ⟨by rfl, rfl⟩) ?_ ?_
         rotate_left
         ·
          simp only [Act.put, List.setIfInBounds_toArray, List.set_cons_zero, List.set_cons_succ, i64_w, i32_w]
          rfl
         refine pure_ (i := 14) (N := some 85) (v := undef) (a' := ?_) mBits34 rfl rfl (any_of HT_.out (by kernel_rfl)) (fun _ _ _ h => h) (Or.inr ⟨by rfl, rfl⟩) ?_ ?_
         rotate_left
         ·
          simp only [Act.put, List.setIfInBounds_toArray, List.set_cons_zero, List.set_cons_succ, i64_w, i32_w]
          rfl
         refine pure_ (i := 15) (N := some 86) (v := ?_) (a' := ?_) mBits36 rfl rfl (any_of HT_.out (by kernel_rfl)) (fun _ _ _ h => h) (Or.inl ⟨by rfl, ?_⟩) ?_ ?_
         rotate_left
         ·
          intro w'
          go_simp
          with_reducible rfl
         rotate_left
         ·
          simp only [Act.put, List.setIfInBounds_toArray, List.set_cons_zero, List.set_cons_succ, i64_w, i32_w]
          rfl
         refine pure_ (i := 16) (N := some 4) (v := ?_) (a' := ?_) mBits69 rfl rfl (any_of HT_.out (by kernel_rfl)) (fun _ _ _ h => h) (Or.inl ⟨by rfl, ?_⟩) ?_ ?_
         rotate_left
         ·
          intro w'
          go_simp
          with_reducible rfl
         rotate_left
         ·
          simp only [Act.put, List.setIfInBounds_toArray, List.set_cons_zero, List.set_cons_succ, i64_w, i32_w]
          rfl
         refine done_ (done_of HT_.out (by kernel_rfl)) ?_
         try go_wp2
         go_ret
         exact ⟨by first | rfl | (simp [errW_none, errW_some] <;> rfl) | (simp [*, errW_none, errW_some] <;> rfl) | (exfalso; contradiction), by repeat (first | (with_reducible first | exact HB.out | apply bB_ | apply wN_ | apply bE_ | refine bS_ ?_ GE112.out | refine bS_ ?_ GE113.out) | exact HB.out)⟩
        ·
         rw [if_neg c45] at H
         have c45b0 : decide (2 < (l0_0.length : Int)) = false := decide_eq_false c45
         have c45b1 : decide (2 < l0_0.length) = false := decide_eq_false (by omega)
         clear c45
         replace H := Option.bind_eq_some_iff.mp H
         obtain ⟨t120, A490, H⟩ := H
         replace H : (some (a1_7 == t120)) = some r := H
         have A49 := aM_ A490
         clear A490
         obtain rfl := Option.some.inj H
         have hnb50 := NB112_113.out
         have hnc50 := NB113_112.out
         have hcz51_0 : wr.cell? ⟨gb112, 0, none⟩ = some (.slice A0_0 l0_0.length c0_0) := (bC_ BK112.out 0).trans rfl
         have hcz51_1 : wr.cell? ⟨gb112, 1, none⟩ = some (.bool false) := (bC_ BK112.out 1).trans rfl
         have hcz51_2 : wr.cell? ⟨gb112, 2, none⟩ = some (.string a0_2) := (bC_ BK112.out 2).trans rfl
         have hcz51_3 : wr.cell? ⟨gb112, 3, none⟩ = some (.string a0_3) := (bC_ BK112.out 3).trans rfl
         have hfz51_0 := bF_ BK112.out 0
         have hfz51_1 := bF_ BK112.out 1
         have hfz51_2 := bF_ BK112.out 2
         have hfz51_3 := bF_ BK112.out 3
         try go_wp2
         have n0_ := aM_ (bD_ BK112.out)
         have n1_ := aM_ (bD_ BK113.out)
         have n2_ := aM_ (bE_ HB.out)
         clear BK112
         clear BK113
         clear HB
         have BK112 := n0_
         have BK113 := n1_
         have HB := n2_
         clear n0_ n1_ n2_
         refine start_ (n := 17) (S := fun w' => w'.cell? ⟨gb112, 0, none⟩ = some (.slice A0_0 l0_0.length c0_0) ∧ w'.cell? ⟨gb112, 1, none⟩ = some (.bool false) ∧ w'.cell? ⟨gb112, 2, none⟩ = some (.string a0_2) ∧ w'.cell? ⟨gb112, 3, none⟩ = some (.string a0_3) ∧ w'.cell? ⟨gb113, 0, none⟩ = some (.bool a1_0) ∧ w'.cell? ⟨gb113, 1, none⟩ = some (.slice A1_1 l1_1.length c1_1) ∧ w'.cell? ⟨gb113, 2, none⟩ = some (.string a1_2) ∧ w'.cell? ⟨gb113, 3, none⟩ = some (.string a1_3) ∧ w'.cell? ⟨gb113, 4, none⟩ = some (.string a1_4) ∧ w'.cell? ⟨gb113, 5, none⟩ = some (.int .u64 a1_5) ∧ w'.cell? ⟨gb113, 6, none⟩ = some (.int .u64 a1_6) ∧ w'.cell? ⟨gb113, 7, none⟩ = some (.int .u64 a1_7)) (ds := []) mBits1 (by kernel_rfl) rfl rfl ⟨(bC_ BK112.out 0).trans rfl, (bC_ BK112.out 1).trans rfl, (bC_ BK112.out 2).trans rfl, (bC_ BK112.out 3).trans rfl, (bC_ BK113.out 0).trans rfl, (bC_ BK113.out 1).trans rfl, (bC_ BK113.out 2).trans rfl, (bC_ BK113.out 3).trans rfl, (bC_ BK113.out 4).trans rfl, (bC_ BK113.out 5).trans rfl, (bC_ BK113.out 6).trans rfl, (bC_ BK113.out 7).trans rfl⟩ (fun hHeld => ?_); refine with_tabW spec_SameVer.tab8 spec_SameVer.bits8 (fun HT_ HW_ => ?_)
         generalize wr.drew = w52 at BK112 BK113 HB hHeld ⊢
         refine pure_ (i := 0) (N := some 71) (v := ?_) (a' := ?_) mBits3 rfl rfl (any_of HT_.out (by kernel_rfl)) (fun _ _ _ h => h) (Or.inl ⟨by rfl, ?_⟩) ?_ ?_
         rotate_left
         ·
          intro w'
          go_simp
          with_reducible rfl
         rotate_left
         ·
          simp only [Act.put, List.setIfInBounds_toArray, List.set_cons_zero, List.set_cons_succ, i64_w, i32_w]
          rfl
         refine take_ (i := 1) (N := some 72) (v := ?_) (a' := ?_) mBits5 rfl rfl (take_ofW HT_.out HW_.out (by kernel_rfl)) (fun _ _ _ h => h) (Or.inl ⟨by rfl, ?_⟩) hHeld ?_ ?_
         rotate_left
         ·
          rintro w' ⟨s0, s1, s2, s3, s4, s5, s6, s7, s8, s9, s10, s11⟩
          go_simp
          with_reducible rfl
         rotate_left
         ·
          simp only [Act.put, List.setIfInBounds_toArray, List.set_cons_zero, List.set_cons_succ, i64_w, i32_w]
          rfl
         refine pure_ (i := 2) (N := some 73) (v := ?_) (a' := ?_) mBits7 rfl rfl (any_of HT_.out (by kernel_rfl)) (fun _ _ _ h => h) (Or.inl ⟨by rfl, ?_⟩) ?_ ?_
         rotate_left
         ·
          intro w'
          go_simp
          with_reducible rfl
         rotate_left
         ·
          simp only [Act.put, List.setIfInBounds_toArray, List.set_cons_zero, List.set_cons_succ, i64_w, i32_w]
          rfl
         refine pure_ (i := 3) (N := some 74) (v := ?_) (a' := ?_) mBits9 rfl rfl (any_of HT_.out (by kernel_rfl)) (fun _ _ _ h => h) (Or.inl ⟨by rfl, ?_⟩) ?_ ?_
         rotate_left
         ·
          intro w'
          go_simp
          with_reducible rfl
         rotate_left
         ·
          simp only [Act.put, List.setIfInBounds_toArray, List.set_cons_zero, List.set_cons_succ, i64_w, i32_w]
          rfl
         refine pure_ (i := 4) (N := some 75) (v := ?_) (a' := ?_) mBits11 rfl rfl (any_of HT_.out (by kernel_rfl)) (fun _ _ _ h => h) (Or.inl ⟨by rfl, ?_⟩) ?_ ?_
         rotate_left
         ·
          intro w'
          go_simp
          with_reducible rfl
         rotate_left
         ·
          simp only [Act.put, List.setIfInBounds_toArray, List.set_cons_zero, List.set_cons_succ, i64_w, i32_w]
          rfl
         refine take_ (i := 5) (N := some 76) (v := ?_) (a' := ?_) mBits14 rfl rfl (take_ofW HT_.out HW_.out (by kernel_rfl)) (fun _ _ _ h => h) (Or.inl ⟨by rfl, ?_⟩) hHeld ?_ ?_
         rotate_left
         ·
          rintro w' ⟨s0, s1, s2, s3, s4, s5, s6, s7, s8, s9, s10, s11⟩
          go_simp
          with_reducible rfl
         rotate_left
         ·
          simp only [Act.put, List.setIfInBounds_toArray, List.set_cons_zero, List.set_cons_succ, i64_w, i32_w]
          rfl
         refine pure_ (i := 6) (N := some 77) (v := ?_) (a' := ?_) mBits17 rfl rfl (any_of HT_.out (by kernel_rfl)) (fun _ _ _ h => h) (Or.inl ⟨by rfl, ?_⟩) ?_ ?_
         rotate_left
         ·
          intro w'
          go_simp
          with_reducible rfl
         rotate_left
         ·
          simp only [Act.put, List.setIfInBounds_toArray, List.set_cons_zero, List.set_cons_succ, i64_w, i32_w]
          rfl
         refine pure_ (i := 7) (N := some 78) (v := ?_) (a' := ?_) mBits19 rfl rfl (any_of HT_.out (by kernel_rfl)) (fun _ _ _ h => h) (Or.inl ⟨by rfl, ?_⟩) ?_ ?_
         rotate_left
         ·
          intro w'
          go_simp
          with_reducible rfl
         rotate_left
         ·
          simp only [Act.put, List.setIfInBounds_toArray, List.set_cons_zero, List.set_cons_succ, i64_w, i32_w]
          rfl
         refine pure_ (i := 8) (N := some 79) (v := ?_) (a' := ?_) mBits21 rfl rfl (any_of HT_.out (by kernel_rfl)) (fun _ _ _ h => h) (Or.inl ⟨by rfl, ?_⟩) ?_ ?_
         rotate_left
         ·
          intro w'
          go_simp
          with_reducible rfl
         rotate_left
         ·
          simp only [Act.put, List.setIfInBounds_toArray, List.set_cons_zero, List.set_cons_succ, i64_w, i32_w]
          rfl
         refine pure_ (i := 9) (N := some 80) (v := ?_) (a' := ?_) mBits23 rfl rfl (any_of HT_.out (by kernel_rfl)) (fun _ _ _ h => h) (Or.inl ⟨by rfl, ?_⟩) ?_ ?_
         rotate_left
         ·
          intro w'
          go_simp
          with_reducible rfl
         rotate_left
         ·
          simp only [Act.put, List.setIfInBounds_toArray, List.set_cons_zero, List.set_cons_succ, i64_w, i32_w]
          rfl
         refine pure_ (i := 10) (N := some 81) (v := ?_) (a' := ?_) mBits25 rfl rfl (any_of HT_.out (by kernel_rfl)) (fun _ _ _ h => h) (Or.inl ⟨by rfl, ?_⟩) ?_ ?_
         rotate_left
         ·
          intro w'
          go_simp
          with_reducible rfl
         rotate_left
         ·
          simp only [Act.put, List.setIfInBounds_toArray, List.set_cons_zero, List.set_cons_succ, i64_w, i32_w]
          rfl
         refine take_ (i := 11) (N := some 82) (v := ?_) (a' := ?_) mBits27 rfl rfl (take_ofW HT_.out HW_.out (by kernel_rfl)) (fun _ _ _ h => h) (Or.inl ⟨by rfl, ?_⟩) hHeld ?_ ?_
         rotate_left
         ·
          rintro w' ⟨s0, s1, s2, s3, s4, s5, s6, s7, s8, s9, s10, s11⟩
          go_simp
          with_reducible rfl
         rotate_left
         ·
          simp only [Act.put, List.setIfInBounds_toArray, List.set_cons_zero, List.set_cons_succ, i64_w, i32_w]
          rfl
         refine take_ (i := 12) (N := some 83) (v := ?_) (a' := ?_) mBits29 rfl rfl (take_ofW HT_.out HW_.out (by kernel_rfl)) (fun _ _ _ h => h) (Or.inl ⟨by rfl, ?_⟩) hHeld ?_ ?_
         rotate_left
         ·
          rintro w' ⟨s0, s1, s2, s3, s4, s5, s6, s7, s8, s9, s10, s11⟩
          go_simp
          with_reducible rfl
         rotate_left
         ·
          simp only [Act.put, List.setIfInBounds_toArray, List.set_cons_zero, List.set_cons_succ, i64_w, i32_w]
          rfl
         refine one_ (i := 13) (N := some 84) mBits31 rfl rfl (one_of HT_.out (by kernel_rfl)) (by decide) (fun K hK => ?_)
         refine goes_ Tryd.func28 (by kernel_rfl) rfl #[.agg #[.slice A0_0 l0_0.length c0_0, .bool false, .string a0_2, .string a0_3], .int .i64 2] (by rfl) rfl rfl (by (try simp only [List.map_toArray, List.map_cons, List.map_nil]); first | done | rfl | (simp only [List.length_drop, List.length_take]; rfl)) ?_
         with_reducible refine (spec_Version_part.calls _ _ l0_0 false a0_2 a0_3 2 t120 _ ?side1 ?side2 A49.out).mono ?_
         (case side1 => repeat (first | exact (Kd.C_below HR0_0.out HB.out) | (with_reducible refine Kd.C_alloc ?_ _) | (with_reducible refine Kd.C_drewN ?_ _) | (with_reducible refine Kd.C_drew ?_)))
         (case side2 => exact HC0_0.out)
         rintro e w53 ⟨rfl, hb⟩
         refine ⟨_, rfl, ?_⟩
         have n0_ := aM_ (blk_below (g := gb112) (o := .cells #[.slice A0_0 l0_0.length c0_0, .bool false, .string a0_2, .string a0_3] 26 (0, 0)) (by (with_reducible repeat (first | refine bN_ ?_ _ | refine bD_ ?_ | refine bA_ ?_ _)); exact BK112.out) hb)
         have n1_ := aM_ (blk_below (g := gb113) (o := .cells #[.bool a1_0, .slice A1_1 l1_1.length c1_1, .string a1_2, .string a1_3, .string a1_4, .int .u64 a1_5, .int .u64 a1_6, .int .u64 a1_7] 28 (0, 0)) (by (with_reducible repeat (first | refine bN_ ?_ _ | refine bD_ ?_ | refine bA_ ?_ _)); exact BK113.out) hb)
         have n2_ := aM_ (below_step (by repeat (first | (with_reducible first | exact HB.out | apply bB_ | apply wN_ | apply bE_ | refine bS_ ?_ GE112.out | refine bS_ ?_ GE113.out) | exact HB.out)) hb)
         clear BK112
         clear BK113
         clear HB
         have BK112 := n0_
         have BK113 := n1_
         have HB := n2_
         clear n0_ n1_ n2_
         (try clear hb)
         (try clear hb2)
         (try clear hk)
         (try clear hi)
         refine hK.out _ _ ⟨(bC_ BK112.out 0).trans rfl, (bC_ BK112.out 1).trans rfl, (bC_ BK112.out 2).trans rfl, (bC_ BK112.out 3).trans rfl, (bC_ BK113.out 0).trans rfl, (bC_ BK113.out 1).trans rfl, (bC_ BK113.out 2).trans rfl, (bC_ BK113.out 3).trans rfl, (bC_ BK113.out 4).trans rfl, (bC_ BK113.out 5).trans rfl, (bC_ BK113.out 6).trans rfl, (bC_ BK113.out 7).trans rfl⟩ (fun hHeld => ?_)
         clear hK K
         refine norm_ (a' := ?_) ?_ ?_
         rotate_left
         ·
          show Act.put _ (some 84) _ = _
          simp only [Act.put, List.setIfInBounds_toArray, List.set_cons_zero, List.set_cons_succ, i64_w, i32_w]
          rfl
         refine pure_ (i := 14) (N := some 85) (v := ?_) (a' := ?_) mBits34 rfl rfl (any_of HT_.out (by kernel_rfl)) (fun _ _ _ h => h) (Or.inl ⟨by rfl, ?_⟩) ?_ ?_
         rotate_left
         ·
          intro w'
          go_simp
          with_reducible rfl
         rotate_left
         ·
          simp only [Act.put, List.setIfInBounds_toArray, List.set_cons_zero, List.set_cons_succ, i64_w, i32_w]
          rfl
         refine pure_ (i := 15) (N := some 86) (v := ?_) (a' := ?_) mBits36 rfl rfl (any_of HT_.out (by kernel_rfl)) (fun _ _ _ h => h) (Or.inl ⟨by rfl, ?_⟩) ?_ ?_
         rotate_left
         ·
          intro w'
          go_simp
          with_reducible rfl
         rotate_left
         ·
          simp only [Act.put, List.setIfInBounds_toArray, List.set_cons_zero, List.set_cons_succ, i64_w, i32_w]
          rfl
         refine pure_ (i := 16) (N := some 4) (v := ?_) (a' := ?_) mBits69 rfl rfl (any_of HT_.out (by kernel_rfl)) (fun _ _ _ h => h) (Or.inl ⟨by rfl, ?_⟩) ?_ ?_
         rotate_left
         ·
          intro w'
          go_simp
          with_reducible rfl
         rotate_left
         ·
          simp only [Act.put, List.setIfInBounds_toArray, List.set_cons_zero, List.set_cons_succ, i64_w, i32_w]
          rfl
         refine done_ (done_of HT_.out (by kernel_rfl)) ?_
         try go_wp2
         go_ret
         exact ⟨by first | rfl | (simp [errW_none, errW_some] <;> rfl) | (simp [*, errW_none, errW_some] <;> rfl) | (exfalso; contradiction), by repeat (first | (with_reducible first | exact HB.out | apply bB_ | apply wN_ | apply bE_ | refine bS_ ?_ GE112.out | refine bS_ ?_ GE113.out) | exact HB.out)⟩

end Go.Proofs.YtomoefldmgfaoaaDoor.PFnVersionParse
