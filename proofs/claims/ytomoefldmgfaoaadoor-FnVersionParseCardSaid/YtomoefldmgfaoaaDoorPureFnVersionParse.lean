/- The pure statement of the law FnVersionParse. -/
import Derived.Test.YtomoefldmgfaoaaDoorPvZd
namespace Go.Proofs.YtomoefldmgfaoaaDoor.Pure
theorem FnVersionParse : Go.Proofs.YtomoefldmgfaoaaDoor.PFnVersionParse.laws_FnVersionParse.Pure := Go.Proofs.YtomoefldmgfaoaaDoor.Pv.SFnVersionParse.law_holds
end Go.Proofs.YtomoefldmgfaoaaDoor.Pure
