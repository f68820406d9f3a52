/- The pure statement of the law FnVersionMade. -/
import Derived.Test.YtomoefldmgfaoaaDoorPvMd
namespace Go.Proofs.YtomoefldmgfaoaaDoor.Pure
theorem FnVersionMade : Go.Proofs.YtomoefldmgfaoaaDoor.PFnVersionMade.laws_FnVersionMade.Pure := Go.Proofs.YtomoefldmgfaoaaDoor.Pv.SFnVersionMade.law_holds
end Go.Proofs.YtomoefldmgfaoaaDoor.Pure
