/- Functions of the program as plain Lean functions, and that the machine's calls do what these say: written for this claim by wip/myprint.py over the kit's print.py. -/
import Derived.Test.YthejejeginnbdaaGreatDoorPFnFieldTurnx0
import Derived.Test.YthejejeginnbdaaGreatDoorPFnFieldTurnx1
import Derived.Test.YthejejeginnbdaaGreatDoorPFnFieldTurnx2
import Derived.Test.YthejejeginnbdaaGreatDoorPFnFieldTurnx3
import Derived.Test.YthejejeginnbdaaGreatDoorPFnFieldTurnx4
import Derived.Test.YthejejeginnbdaaGreatDoorPFnFieldTurnx5
import Derived.Test.YthejejeginnbdaaGreatDoorPFnFieldTurnx6
namespace Go.Proofs.YthejejeginnbdaaGreatDoor.PFnFieldTurn
open Go.RowKit Go.Proofs.YthejejeginnbdaaGreatDoorW.PrintWords Go.Proofs.YthejejeginnbdaaGreatDoorW.PrintLast Go.Proofs.YthejejeginnbdaaGreatDoorW.PrintMore
attribute [local go_sem] max2_int min2_int max_two min_two max_three min_three max_four min_four   -- for this text's walks alone
set_option linter.unusedVariables false
set_option linter.unusedSimpArgs false

end Go.Proofs.YthejejeginnbdaaGreatDoor.PFnFieldTurn
