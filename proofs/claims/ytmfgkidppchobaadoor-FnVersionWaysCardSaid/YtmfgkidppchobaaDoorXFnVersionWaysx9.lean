/- A text of this session: the functions of the law FnVersionWays, by a program that calls the kit's print and lays this session's own contracts of single functions beside. -/
import Derived.Test.YtmfgkidppchobaaDoorXFnVersionWaysx0
namespace Go.Proofs.YtmfgkidppchobaaDoor.XFnVersionWays
open Go.RowKit Go.Proofs.YtmfgkidppchobaaDoorW.PrintWords Go.Proofs.YtmfgkidppchobaaDoorW.PrintLast Go.Proofs.YtmfgkidppchobaaDoorW.PrintMore
attribute [local go_sem] max2_int min2_int max_two min_two max_three min_three max_four min_four   -- for this text's walks alone
set_option linter.unusedVariables false
set_option linter.unusedSimpArgs false

-- NOT PRINTED: function 20 (impl_VersionMake)

-- NOT PRINTED: function 7 (laws_FnVersionWays)

end Go.Proofs.YtmfgkidppchobaaDoor.XFnVersionWays
