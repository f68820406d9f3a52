/- The printed helpers. -/
import Derived.Test.YtomoefldmgfaoaaDoorPvHx0
import Derived.Test.YtomoefldmgfaoaaDoorPvHx1
import Derived.Test.YtomoefldmgfaoaaDoorPvHx2
import Derived.Test.YtomoefldmgfaoaaDoorPvHx3
import Derived.Test.YtomoefldmgfaoaaDoorPvHx4
import Derived.Test.YtomoefldmgfaoaaDoorPvHx5
