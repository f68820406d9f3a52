/- Functions of the program as plain Lean functions, and that the machine's calls do what these say: written for this claim by wip/myprint.py over the kit's print.py. -/
import Derived.Test.YtmlhgafinkcfcaaDoorProg
import Derived.Below
import Derived.Deep.Draws
import Derived.Deep.AppendLies
import Derived.Maps.AppendAt
import Derived.OwnWalk
import Derived.Laws.BytesArg
import Derived.Laws.MakeOwn
import Derived.Laws.OwnMore
import Derived.Deep.OwnRows
import Derived.Tactics
import Derived.Lib.ConvBytes
import Derived.Laws.Slices
import Derived.WalkKit
import Derived.KernelRfl
import Derived.RowKit3
import Derived.Deep.LoopGhost
import Derived.Deep.QuietTactic
import Derived.BigQuiet
import Derived.WideLaws
import Derived.Deep.DeepCutAuto
import Derived.Deep.CutBlock
import Derived.Deep.RegionHeld3
import Derived.Laws.Rows
import Derived.Lib.AppendStr
import Derived.ArgAppend
import Derived.Laws.IdiomCopy
import Derived.OrdersHeld
import Derived.Laws.BitsLemmas
import Derived.RowKit
import Derived.WalkMore
import Derived.Test.YtmlhgafinkcfcaaDoorWWords
import Derived.Test.YtmlhgafinkcfcaaDoorWLast
import Derived.Test.YtmlhgafinkcfcaaDoorWTab
import Derived.Test.YtmlhgafinkcfcaaDoorWFour
import Derived.Test.YtmlhgafinkcfcaaDoorWQPut
import Derived.Test.YtmlhgafinkcfcaaDoorWApart
import Derived.Test.YtmlhgafinkcfcaaDoorWArr
import Derived.Test.YtmlhgafinkcfcaaDoorWZeros
import Derived.Test.YtmlhgafinkcfcaaDoorWFoot
import Derived.Test.YtmlhgafinkcfcaaDoorWKept
import Derived.Test.YtmlhgafinkcfcaaDoorWShare
import Derived.Test.YtmlhgafinkcfcaaDoorWN
import Derived.Test.YtmlhgafinkcfcaaDoorWFootNe
import Derived.Test.YtmlhgafinkcfcaaDoorWAt
import Derived.Test.YtmlhgafinkcfcaaDoorWEqStruct
import Derived.Test.YtmlhgafinkcfcaaDoorWRepsOne
import Derived.Test.YtmlhgafinkcfcaaDoorWInv
import Derived.Test.YtmlhgafinkcfcaaDoorWInvWords
import Derived.Test.YtmlhgafinkcfcaaDoorWGuard
import Derived.Test.YtmlhgafinkcfcaaDoorWNEv
import Derived.Test.YtmlhgafinkcfcaaDoorWMore
namespace Go.Proofs.YtmlhgafinkcfcaaDoor.PFnPortsBack
open Go.RowKit Go.Proofs.YtmlhgafinkcfcaaDoorW.PrintWords Go.Proofs.YtmlhgafinkcfcaaDoorW.PrintLast Go.Proofs.YtmlhgafinkcfcaaDoorW.PrintMore
attribute [local go_sem] max2_int min2_int max_two min_two max_three min_three max_four min_four   -- for this text's walks alone
set_option linter.unusedVariables false
set_option linter.unusedSimpArgs false



def errW : Option Int → Value
  | none => .nilIface
  | some c => .iface 0 (.int .i64 c)
theorem errW_none : errW none = .nilIface := rfl
theorem errW_some (c : Int) : errW (some c) = .iface 0 (.int .i64 c) := rfl

-- the values' own types

end Go.Proofs.YtmlhgafinkcfcaaDoor.PFnPortsBack
