/- Functions of the program as plain Lean functions, and that the machine's calls do what these say: written for this claim by wip/myprint.py over the kit's print.py. -/
import Derived.Test.YtlbibogffeddhaaDoorProg
import Derived.Below
import Derived.Deep.Draws
import Derived.Deep.AppendLies
import Derived.Maps.AppendAt
import Derived.OwnWalk
import Derived.Laws.BytesArg
import Derived.Laws.MakeOwn
import Derived.Laws.OwnMore
import Derived.Deep.OwnRows
import Derived.Tactics
import Derived.Lib.ConvBytes
import Derived.Laws.Slices
import Derived.WalkKit
import Derived.KernelRfl
import Derived.RowKit3
import Derived.Deep.LoopGhost
import Derived.Deep.QuietTactic
import Derived.BigQuiet
import Derived.WideLaws
import Derived.Deep.DeepCutAuto
import Derived.Deep.CutBlock
import Derived.Deep.RegionHeld3
import Derived.Laws.Rows
import Derived.Lib.AppendStr
import Derived.ArgAppend
import Derived.Laws.IdiomCopy
import Derived.OrdersHeld
import Derived.Laws.BitsLemmas
import Derived.RowKit
import Derived.WalkMore
import Derived.Test.YtlbibogffeddhaaDoorWWords
import Derived.Test.YtlbibogffeddhaaDoorWLast
import Derived.Test.YtlbibogffeddhaaDoorWTab
import Derived.Test.YtlbibogffeddhaaDoorWFour
import Derived.Test.YtlbibogffeddhaaDoorWQPut
import Derived.Test.YtlbibogffeddhaaDoorWApart
import Derived.Test.YtlbibogffeddhaaDoorWArr
import Derived.Test.YtlbibogffeddhaaDoorWZeros
import Derived.Test.YtlbibogffeddhaaDoorWFoot
import Derived.Test.YtlbibogffeddhaaDoorWKept
import Derived.Test.YtlbibogffeddhaaDoorWShare
import Derived.Test.YtlbibogffeddhaaDoorWN
import Derived.Test.YtlbibogffeddhaaDoorWFootNe
import Derived.Test.YtlbibogffeddhaaDoorWAt
import Derived.Test.YtlbibogffeddhaaDoorWEqStruct
import Derived.Test.YtlbibogffeddhaaDoorWRepsOne
import Derived.Test.YtlbibogffeddhaaDoorWInv
import Derived.Test.YtlbibogffeddhaaDoorWInvWords
import Derived.Test.YtlbibogffeddhaaDoorWGuard
import Derived.Test.YtlbibogffeddhaaDoorWNEv
import Derived.Test.YtlbibogffeddhaaDoorWMore
namespace Go.Proofs.YtlbibogffeddhaaDoor.PFnFieldEscape
open Go.RowKit Go.Proofs.YtlbibogffeddhaaDoorW.PrintWords Go.Proofs.YtlbibogffeddhaaDoorW.PrintLast Go.Proofs.YtlbibogffeddhaaDoorW.PrintMore
attribute [local go_sem] max2_int min2_int max_two min_two max_three min_three max_four min_four   -- for this text's walks alone
set_option linter.unusedVariables false
set_option linter.unusedSimpArgs false



def errW : Option Int → Value
  | none => .nilIface
  | some c => .iface 0 (.int .i64 c)
theorem errW_none : errW none = .nilIface := rfl
theorem errW_some (c : Int) : errW (some c) = .iface 0 (.int .i64 c) := rfl

theorem info5 : (Tryd.prog.info? 5).map (fun i => (i.zero, i.size, i.bytes)) = some (some (.int .u8 0), 1, 1) := by kernel_rfl
-- the values' own types

end Go.Proofs.YtlbibogffeddhaaDoor.PFnFieldEscape
