/- A text of this session: the functions of the law FnAmountSub, by a program that calls the kit's print and lays this session's own contracts of single functions beside. -/
import Derived.Test.YtmkpkpkcoieeiaaXFnAmountSubx0
import Derived.Test.YtmkpkpkcoieeiaaXFnAmountSubx1
import Derived.Test.YtmkpkpkcoieeiaaXFnAmountSubx2
import Derived.Test.YtmkpkpkcoieeiaaXFnAmountSubx3
import Derived.Test.YtmkpkpkcoieeiaaXFnAmountSubx4
import Derived.Test.YtmkpkpkcoieeiaaXFnAmountSubx5
import Derived.Test.YtmkpkpkcoieeiaaXFnAmountSubx6
import Derived.Test.YtmkpkpkcoieeiaaXFnAmountSubx7
import Derived.Test.YtmkpkpkcoieeiaaXFnAmountSubx8
namespace Go.Proofs.Ytmkpkpkcoieeiaa.XFnAmountSub
open Go.RowKit Go.Proofs.YtmkpkpkcoieeiaaW.PrintWords Go.Proofs.YtmkpkpkcoieeiaaW.PrintLast Go.Proofs.YtmkpkpkcoieeiaaW.PrintMore
attribute [local go_sem] max2_int min2_int max_two min_two max_three min_three max_four min_four   -- for this text's walks alone
set_option linter.unusedVariables false
set_option linter.unusedSimpArgs false

end Go.Proofs.Ytmkpkpkcoieeiaa.XFnAmountSub
