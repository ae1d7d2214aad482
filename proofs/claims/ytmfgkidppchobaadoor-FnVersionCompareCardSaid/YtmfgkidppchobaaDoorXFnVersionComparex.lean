/- A text of this session: the functions of the law FnVersionCompare, by a program that calls the kit's print and lays this session's own contracts of single functions beside. -/
import Derived.Test.YtmfgkidppchobaaDoorXFnVersionComparex0
import Derived.Test.YtmfgkidppchobaaDoorXFnVersionComparex1
import Derived.Test.YtmfgkidppchobaaDoorXFnVersionComparex2
import Derived.Test.YtmfgkidppchobaaDoorXFnVersionComparex3
import Derived.Test.YtmfgkidppchobaaDoorXFnVersionComparex4
import Derived.Test.YtmfgkidppchobaaDoorXFnVersionComparex5
import Derived.Test.YtmfgkidppchobaaDoorXFnVersionComparex6
import Derived.Test.YtmfgkidppchobaaDoorXFnVersionComparex7
import Derived.Test.YtmfgkidppchobaaDoorXFnVersionComparex8
import Derived.Test.YtmfgkidppchobaaDoorXFnVersionComparex9
import Derived.Test.YtmfgkidppchobaaDoorXFnVersionComparex10
namespace Go.Proofs.YtmfgkidppchobaaDoor.XFnVersionCompare
open Go.Proofs.YtmfgkidppchobaaDoor.Ver5 Go.RowKit Go.Proofs.YtmfgkidppchobaaDoorW.PrintWords Go.Proofs.YtmfgkidppchobaaDoorW.PrintLast Go.Proofs.YtmfgkidppchobaaDoorW.PrintMore
attribute [local go_sem] max2_int min2_int max_two min_two max_three min_three max_four min_four   -- for this text's walks alone
set_option linter.unusedVariables false
set_option linter.unusedSimpArgs false

end Go.Proofs.YtmfgkidppchobaaDoor.XFnVersionCompare
