/- Functions of the program as plain Lean functions, and that the machine's calls do what these say: written for this claim by wip/myprint.py over the kit's print.py. -/
import Derived.Test.YtpaihcikeieliaaProg
import Derived.Below
import Derived.Deep.Draws
import Derived.Deep.AppendLies
import Derived.Maps.AppendAt
import Derived.OwnWalk
import Derived.Laws.BytesArg
import Derived.Laws.MakeOwn
import Derived.Laws.OwnMore
import Derived.Deep.OwnRows
import Derived.Tactics
import Derived.Lib.ConvBytes
import Derived.Laws.Slices
import Derived.WalkKit
import Derived.KernelRfl
import Derived.RowKit3
import Derived.Deep.LoopGhost
import Derived.Deep.QuietTactic
import Derived.BigQuiet
import Derived.WideLaws
import Derived.Deep.DeepCutAuto
import Derived.Deep.CutBlock
import Derived.Deep.RegionHeld3
import Derived.Laws.Rows
import Derived.Lib.AppendStr
import Derived.ArgAppend
import Derived.Laws.IdiomCopy
import Derived.OrdersHeld
import Derived.Laws.BitsLemmas
import Derived.RowKit
import Derived.Test.YtpaihcikeieliaaShelfB
import Derived.Test.YtpaihcikeieliaaWWords
import Derived.Test.YtpaihcikeieliaaWLast
import Derived.Test.YtpaihcikeieliaaWTab
import Derived.Test.YtpaihcikeieliaaWFour
import Derived.Test.YtpaihcikeieliaaWQPut
import Derived.Test.YtpaihcikeieliaaWApart
import Derived.Test.YtpaihcikeieliaaWArr
import Derived.Test.YtpaihcikeieliaaWZeros
import Derived.Test.YtpaihcikeieliaaWFoot
import Derived.Test.YtpaihcikeieliaaWKept
import Derived.Test.YtpaihcikeieliaaWShare
import Derived.Test.YtpaihcikeieliaaWN
import Derived.Test.YtpaihcikeieliaaWFootNe
import Derived.Test.YtpaihcikeieliaaWAt
import Derived.Test.YtpaihcikeieliaaWEqStruct
import Derived.Test.YtpaihcikeieliaaWRepsOne
import Derived.Test.YtpaihcikeieliaaWInv
import Derived.Test.YtpaihcikeieliaaWInvWords
import Derived.Test.YtpaihcikeieliaaWGuard
import Derived.Test.YtpaihcikeieliaaWNEv
import Derived.Test.YtpaihcikeieliaaWMore
namespace Go.Proofs.Ytpaihcikeieliaa.PFnKindTexts
open Go.RowKit Go.Proofs.YtpaihcikeieliaaW.PrintWords Go.Proofs.YtpaihcikeieliaaW.PrintLast Go.Proofs.YtpaihcikeieliaaW.PrintMore
attribute [local go_sem] max2_int min2_int max_two min_two max_three min_three max_four min_four   -- for this text's walks alone
set_option linter.unusedVariables false
set_option linter.unusedSimpArgs false



def errW : Option Int → Value
  | none => .nilIface
  | some c => .iface 0 (.int .i64 c)
theorem errW_none : errW none = .nilIface := rfl
theorem errW_some (c : Int) : errW (some c) = .iface 0 (.int .i64 c) := rfl

-- the values' own types

end Go.Proofs.Ytpaihcikeieliaa.PFnKindTexts
