/- A text of this session: the functions of the law FnVersionWays, by a program that calls the kit's print and lays this session's own contracts of single functions beside. -/
import Derived.Test.YtmfgkidppchobaaDoorXFnVersionWaysx0
import Derived.Test.YtmfgkidppchobaaDoorXFnVersionWaysx1
import Derived.Test.YtmfgkidppchobaaDoorXFnVersionWaysx2
import Derived.Test.YtmfgkidppchobaaDoorXFnVersionWaysx3
import Derived.Test.YtmfgkidppchobaaDoorXFnVersionWaysx4
import Derived.Test.YtmfgkidppchobaaDoorXFnVersionWaysx5
import Derived.Test.YtmfgkidppchobaaDoorXFnVersionWaysx6
import Derived.Test.YtmfgkidppchobaaDoorXFnVersionWaysx7
import Derived.Test.YtmfgkidppchobaaDoorXFnVersionWaysx8
import Derived.Test.YtmfgkidppchobaaDoorXFnVersionWaysx9
namespace Go.Proofs.YtmfgkidppchobaaDoor.XFnVersionWays
open Go.RowKit Go.Proofs.YtmfgkidppchobaaDoorW.PrintWords Go.Proofs.YtmfgkidppchobaaDoorW.PrintLast Go.Proofs.YtmfgkidppchobaaDoorW.PrintMore
attribute [local go_sem] max2_int min2_int max_two min_two max_three min_three max_four min_four   -- for this text's walks alone
set_option linter.unusedVariables false
set_option linter.unusedSimpArgs false

end Go.Proofs.YtmfgkidppchobaaDoor.XFnVersionWays
