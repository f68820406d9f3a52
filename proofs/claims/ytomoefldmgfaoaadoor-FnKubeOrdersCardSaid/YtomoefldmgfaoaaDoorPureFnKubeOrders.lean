/- The pure statement of the law FnKubeOrders. -/
import Derived.Test.YtomoefldmgfaoaaDoorPvKo
namespace Go.Proofs.YtomoefldmgfaoaaDoor.Pure
theorem FnKubeOrders : Go.Proofs.YtomoefldmgfaoaaDoor.PFnKubeOrders.laws_FnKubeOrders.Pure := Go.Proofs.YtomoefldmgfaoaaDoor.Pv.SFnKubeOrders.law_holds
end Go.Proofs.YtomoefldmgfaoaaDoor.Pure
