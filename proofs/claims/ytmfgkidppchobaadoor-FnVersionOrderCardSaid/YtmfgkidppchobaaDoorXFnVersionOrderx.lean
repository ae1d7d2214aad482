/- A text of this session: the functions of the law FnVersionOrder, by a program that calls the kit's print and lays this session's own contracts of single functions beside. -/
import Derived.Test.YtmfgkidppchobaaDoorXFnVersionOrderx0
import Derived.Test.YtmfgkidppchobaaDoorXFnVersionOrderx1
import Derived.Test.YtmfgkidppchobaaDoorXFnVersionOrderx2
import Derived.Test.YtmfgkidppchobaaDoorXFnVersionOrderx3
import Derived.Test.YtmfgkidppchobaaDoorXFnVersionOrderx4
import Derived.Test.YtmfgkidppchobaaDoorXFnVersionOrderx5
import Derived.Test.YtmfgkidppchobaaDoorXFnVersionOrderx6
import Derived.Test.YtmfgkidppchobaaDoorXFnVersionOrderx7
import Derived.Test.YtmfgkidppchobaaDoorXFnVersionOrderx8
import Derived.Test.YtmfgkidppchobaaDoorXFnVersionOrderx9
import Derived.Test.YtmfgkidppchobaaDoorXFnVersionOrderx10
namespace Go.Proofs.YtmfgkidppchobaaDoor.XFnVersionOrder
open Go.Proofs.YtmfgkidppchobaaDoor.Ver5 Go.RowKit Go.Proofs.YtmfgkidppchobaaDoorW.PrintWords Go.Proofs.YtmfgkidppchobaaDoorW.PrintLast Go.Proofs.YtmfgkidppchobaaDoorW.PrintMore
attribute [local go_sem] max2_int min2_int max_two min_two max_three min_three max_four min_four   -- for this text's walks alone
set_option linter.unusedVariables false
set_option linter.unusedSimpArgs false

end Go.Proofs.YtmfgkidppchobaaDoor.XFnVersionOrder
