/- A text of this session: the functions of the law FnKubeCompare, by a program that calls the kit's print and lays this session's own contracts of single functions beside. -/
import Derived.Test.YtmkpkpkcoieeiaaDoorXFnKubeComparex0
import Derived.Test.YtmkpkpkcoieeiaaDoorXFnKubeComparex1
import Derived.Test.YtmkpkpkcoieeiaaDoorXFnKubeComparex2
import Derived.Test.YtmkpkpkcoieeiaaDoorXFnKubeComparex3
import Derived.Test.YtmkpkpkcoieeiaaDoorXFnKubeComparex4
import Derived.Test.YtmkpkpkcoieeiaaDoorXFnKubeComparex5
import Derived.Test.YtmkpkpkcoieeiaaDoorXFnKubeComparex6
namespace Go.Proofs.YtmkpkpkcoieeiaaDoor.XFnKubeCompare
open Go.RowKit Go.Proofs.YtmkpkpkcoieeiaaDoorW.PrintWords Go.Proofs.YtmkpkpkcoieeiaaDoorW.PrintLast Go.Proofs.YtmkpkpkcoieeiaaDoorW.PrintMore
attribute [local go_sem] max2_int min2_int max_two min_two max_three min_three max_four min_four   -- for this text's walks alone
set_option linter.unusedVariables false
set_option linter.unusedSimpArgs false

end Go.Proofs.YtmkpkpkcoieeiaaDoor.XFnKubeCompare
