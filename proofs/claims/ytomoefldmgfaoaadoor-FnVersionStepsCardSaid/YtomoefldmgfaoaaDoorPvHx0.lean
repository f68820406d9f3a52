/- Functions of the program as plain Lean functions, and that the machine's calls do what these say: written for this claim by wip/myprint.py over the kit's print.py. -/
import Derived.Test.YtomoefldmgfaoaaDoorProg
import Derived.Below
import Derived.Deep.Draws
import Derived.Deep.AppendLies
import Derived.Maps.AppendAt
import Derived.OwnWalk
import Derived.Laws.BytesArg
import Derived.Laws.MakeOwn
import Derived.Laws.OwnMore
import Derived.Deep.OwnRows
import Derived.Tactics
import Derived.Lib.ConvBytes
import Derived.Laws.Slices
import Derived.WalkKit
import Derived.KernelRfl
import Derived.RowKit3
import Derived.Deep.LoopGhost
import Derived.Deep.QuietTactic
import Derived.BigQuiet
import Derived.WideLaws
import Derived.Deep.DeepCutAuto
import Derived.Deep.CutBlock
import Derived.Deep.RegionHeld3
import Derived.Laws.Rows
import Derived.Lib.AppendStr
import Derived.ArgAppend
import Derived.Laws.IdiomCopy
import Derived.OrdersHeld
import Derived.Laws.BitsLemmas
import Derived.RowKit
import Derived.WalkMore
import Derived.ChangeAlike
import Derived.IntWalk
import Derived.Laws.IdiomStrings
import Derived.RegionTactic
import Derived.Test.YtomoefldmgfaoaaDoorWWords
import Derived.Test.YtomoefldmgfaoaaDoorWLast
import Derived.Test.YtomoefldmgfaoaaDoorWTab
import Derived.Test.YtomoefldmgfaoaaDoorWQPut
import Derived.Test.YtomoefldmgfaoaaDoorWApart
import Derived.Test.YtomoefldmgfaoaaDoorWArr
import Derived.Test.YtomoefldmgfaoaaDoorWZeros
import Derived.Test.YtomoefldmgfaoaaDoorWFoot
import Derived.Test.YtomoefldmgfaoaaDoorWKept
import Derived.Test.YtomoefldmgfaoaaDoorWShare
import Derived.Test.YtomoefldmgfaoaaDoorWN
import Derived.Test.YtomoefldmgfaoaaDoorWRepsOne
import Derived.Test.YtomoefldmgfaoaaDoorWGuard
import Derived.Test.YtomoefldmgfaoaaDoorWNEv
import Derived.Test.YtomoefldmgfaoaaDoorWMore
namespace Go.Proofs.YtomoefldmgfaoaaDoor.PvH
open Go.RowKit Go.Proofs.YtomoefldmgfaoaaDoorW.PrintWords Go.Proofs.YtomoefldmgfaoaaDoorW.PrintLast Go.Proofs.YtomoefldmgfaoaaDoorW.PrintMore
attribute [local go_sem] max2_int min2_int max_two min_two max_three min_three max_four min_four   -- for this text's walks alone
set_option linter.unusedVariables false
set_option linter.unusedSimpArgs false



def errW : Option Int → Value
 | none => .nilIface
 | some c => .iface 0 (.int .i64 c)
theorem errW_none : errW none = .nilIface := rfl
theorem errW_some (c : Int) : errW (some c) = .iface 0 (.int .i64 c) := rfl

theorem info9 : (Tryd.prog.info? 9).map (fun i => (i.zero, i.size, i.bytes)) = some (some (.string ⟨#[]⟩), 1, 16) := by kernel_rfl
-- the values' own types
def rd_L1 (xs : List (List ByteArray)) (i : Int) : (List ByteArray) := xs.getD i.toNat ([] : List ByteArray)
end Go.Proofs.YtomoefldmgfaoaaDoor.PvH
