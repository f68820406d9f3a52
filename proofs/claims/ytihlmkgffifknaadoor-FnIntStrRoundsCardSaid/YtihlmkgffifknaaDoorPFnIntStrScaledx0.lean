/- Functions of the program as plain Lean functions, and that the machine's calls do what these say: written for this claim by wip/myprint.py over the kit's print.py. -/
import Derived.Test.YtihlmkgffifknaaDoorProg
import Derived.Below
import Derived.Deep.Draws
import Derived.Deep.AppendLies
import Derived.Maps.AppendAt
import Derived.OwnWalk
import Derived.Laws.BytesArg
import Derived.Laws.MakeOwn
import Derived.Laws.OwnMore
import Derived.Deep.OwnRows
import Derived.Tactics
import Derived.Lib.ConvBytes
import Derived.Laws.Slices
import Derived.WalkKit
import Derived.KernelRfl
import Derived.RowKit3
import Derived.Deep.LoopGhost
import Derived.Deep.QuietTactic
import Derived.BigQuiet
import Derived.WideLaws
import Derived.Deep.DeepCutAuto
import Derived.Deep.CutBlock
import Derived.Deep.RegionHeld3
import Derived.Laws.Rows
import Derived.Lib.AppendStr
import Derived.ArgAppend
import Derived.Laws.IdiomCopy
import Derived.OrdersHeld
import Derived.Laws.BitsLemmas
import Derived.RowKit
import Derived.WalkMore
import Derived.Test.YtihlmkgffifknaaDoorWWords
import Derived.Test.YtihlmkgffifknaaDoorWLast
import Derived.Test.YtihlmkgffifknaaDoorWTab
import Derived.Test.YtihlmkgffifknaaDoorWFour
import Derived.Test.YtihlmkgffifknaaDoorWQPut
import Derived.Test.YtihlmkgffifknaaDoorWApart
import Derived.Test.YtihlmkgffifknaaDoorWArr
import Derived.Test.YtihlmkgffifknaaDoorWZeros
import Derived.Test.YtihlmkgffifknaaDoorWFoot
import Derived.Test.YtihlmkgffifknaaDoorWKept
import Derived.Test.YtihlmkgffifknaaDoorWShare
import Derived.Test.YtihlmkgffifknaaDoorWN
import Derived.Test.YtihlmkgffifknaaDoorWFootNe
import Derived.Test.YtihlmkgffifknaaDoorWAt
import Derived.Test.YtihlmkgffifknaaDoorWEqStruct
import Derived.Test.YtihlmkgffifknaaDoorWRepsOne
import Derived.Test.YtihlmkgffifknaaDoorWInv
import Derived.Test.YtihlmkgffifknaaDoorWInvWords
import Derived.Test.YtihlmkgffifknaaDoorWGuard
import Derived.Test.YtihlmkgffifknaaDoorWNEv
import Derived.Test.YtihlmkgffifknaaDoorWMore
namespace Go.Proofs.YtihlmkgffifknaaDoor.PFnIntStrScaled
open Go.RowKit Go.Proofs.YtihlmkgffifknaaDoorW.PrintWords Go.Proofs.YtihlmkgffifknaaDoorW.PrintLast Go.Proofs.YtihlmkgffifknaaDoorW.PrintMore
attribute [local go_sem] max2_int min2_int max_two min_two max_three min_three max_four min_four   -- for this text's walks alone
set_option linter.unusedVariables false
set_option linter.unusedSimpArgs false



def errW : Option Int → Value
  | none => .nilIface
  | some c => .iface 0 (.int .i64 c)
theorem errW_none : errW none = .nilIface := rfl
theorem errW_some (c : Int) : errW (some c) = .iface 0 (.int .i64 c) := rfl

-- the values' own types

end Go.Proofs.YtihlmkgffifknaaDoor.PFnIntStrScaled
