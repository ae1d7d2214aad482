/- A text of this session: the functions of the law FnKubeMade, by a program that calls the kit's print and lays this session's own contracts of single functions beside. -/
import Derived.Test.YtmkpkpkcoieeiaaDoorXFnKubeMadex0
import Derived.Test.YtmkpkpkcoieeiaaDoorXFnKubeMadex1
import Derived.Test.YtmkpkpkcoieeiaaDoorXFnKubeMadex2
import Derived.Test.YtmkpkpkcoieeiaaDoorXFnKubeMadex3
import Derived.Test.YtmkpkpkcoieeiaaDoorXFnKubeMadex4
namespace Go.Proofs.YtmkpkpkcoieeiaaDoor.XFnKubeMade
open Go.RowKit Go.Proofs.YtmkpkpkcoieeiaaDoorW.PrintWords Go.Proofs.YtmkpkpkcoieeiaaDoorW.PrintLast Go.Proofs.YtmkpkpkcoieeiaaDoorW.PrintMore
attribute [local go_sem] max2_int min2_int max_two min_two max_three min_three max_four min_four   -- for this text's walks alone
set_option linter.unusedVariables false
set_option linter.unusedSimpArgs false

end Go.Proofs.YtmkpkpkcoieeiaaDoor.XFnKubeMade
