/- Functions of the program as plain Lean functions, and that the machine's calls do what these say: written for this claim by wip/myprint.py over the kit's print.py. -/
import Derived.Test.YtihbljdghmfidaaProg
import Derived.Below
import Derived.Deep.Draws
import Derived.Deep.AppendLies
import Derived.Maps.AppendAt
import Derived.OwnWalk
import Derived.Laws.BytesArg
import Derived.Laws.MakeOwn
import Derived.Laws.OwnMore
import Derived.Deep.OwnRows
import Derived.Tactics
import Derived.Lib.ConvBytes
import Derived.Laws.Slices
import Derived.WalkKit
import Derived.KernelRfl
import Derived.RowKit3
import Derived.Deep.LoopGhost
import Derived.Deep.QuietTactic
import Derived.BigQuiet
import Derived.WideLaws
import Derived.Deep.DeepCutAuto
import Derived.Deep.CutBlock
import Derived.Deep.RegionHeld3
import Derived.Laws.Rows
import Derived.Lib.AppendStr
import Derived.ArgAppend
import Derived.Laws.IdiomCopy
import Derived.OrdersHeld
import Derived.Laws.BitsLemmas
import Derived.RowKit
import Derived.Test.YtihbljdghmfidaaWWords
import Derived.Test.YtihbljdghmfidaaWLast
import Derived.Test.YtihbljdghmfidaaWTab
import Derived.Test.YtihbljdghmfidaaWFour
import Derived.Test.YtihbljdghmfidaaWQPut
import Derived.Test.YtihbljdghmfidaaWApart
import Derived.Test.YtihbljdghmfidaaWArr
import Derived.Test.YtihbljdghmfidaaWZeros
import Derived.Test.YtihbljdghmfidaaWFoot
import Derived.Test.YtihbljdghmfidaaWKept
import Derived.Test.YtihbljdghmfidaaWShare
import Derived.Test.YtihbljdghmfidaaWN
import Derived.Test.YtihbljdghmfidaaWFootNe
import Derived.Test.YtihbljdghmfidaaWAt
import Derived.Test.YtihbljdghmfidaaWEqStruct
import Derived.Test.YtihbljdghmfidaaWRepsOne
import Derived.Test.YtihbljdghmfidaaWInv
import Derived.Test.YtihbljdghmfidaaWInvWords
import Derived.Test.YtihbljdghmfidaaWGuard
import Derived.Test.YtihbljdghmfidaaWNEv
import Derived.Test.YtihbljdghmfidaaWMore
namespace Go.Proofs.Ytihbljdghmfidaa.PFnAmountScaled
open Go.RowKit Go.Proofs.YtihbljdghmfidaaW.PrintWords Go.Proofs.YtihbljdghmfidaaW.PrintLast Go.Proofs.YtihbljdghmfidaaW.PrintMore
attribute [local go_sem] max2_int min2_int max_two min_two max_three min_three max_four min_four   -- for this text's walks alone
set_option linter.unusedVariables false
set_option linter.unusedSimpArgs false



def errW : Option Int → Value
  | none => .nilIface
  | some c => .iface 0 (.int .i64 c)
theorem errW_none : errW none = .nilIface := rfl
theorem errW_some (c : Int) : errW (some c) = .iface 0 (.int .i64 c) := rfl

theorem info3 : (Try.prog.info? 3).map (fun i => (i.zero, i.size, i.bytes)) = some (some (.int .i64 0), 1, 8) := by kernel_rfl
-- the values' own types

end Go.Proofs.Ytihbljdghmfidaa.PFnAmountScaled
