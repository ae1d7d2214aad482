/- A text of this session: the functions of the law FnIntStrParse, by a program that calls the kit's print and lays this session's own contracts of single functions beside. -/
import Derived.Test.YtmkpkpkcoieeiaaDoorXFnIntStrParsex0
import Derived.Test.YtmkpkpkcoieeiaaDoorXFnIntStrParsex1
import Derived.Test.YtmkpkpkcoieeiaaDoorXFnIntStrParsex2
import Derived.Test.YtmkpkpkcoieeiaaDoorXFnIntStrParsex3
namespace Go.Proofs.YtmkpkpkcoieeiaaDoor.XFnIntStrParse
open Go.RowKit Go.Proofs.YtmkpkpkcoieeiaaDoorW.PrintWords Go.Proofs.YtmkpkpkcoieeiaaDoorW.PrintLast Go.Proofs.YtmkpkpkcoieeiaaDoorW.PrintMore
attribute [local go_sem] max2_int min2_int max_two min_two max_three min_three max_four min_four   -- for this text's walks alone
set_option linter.unusedVariables false
set_option linter.unusedSimpArgs false

end Go.Proofs.YtmkpkpkcoieeiaaDoor.XFnIntStrParse
