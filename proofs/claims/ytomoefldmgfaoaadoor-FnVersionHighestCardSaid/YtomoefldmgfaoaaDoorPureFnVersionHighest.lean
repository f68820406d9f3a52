/- The pure statement of the law FnVersionHighest. -/
import Derived.Test.YtomoefldmgfaoaaDoorPvCh
namespace Go.Proofs.YtomoefldmgfaoaaDoor.Pure
theorem FnVersionHighest : Go.Proofs.YtomoefldmgfaoaaDoor.PFnVersionHighest.laws_FnVersionHighest.Pure := Go.Proofs.YtomoefldmgfaoaaDoor.Pv.SFnVersionHighest.law_holds
end Go.Proofs.YtomoefldmgfaoaaDoor.Pure
