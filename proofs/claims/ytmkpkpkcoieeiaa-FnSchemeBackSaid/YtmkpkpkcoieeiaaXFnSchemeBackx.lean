/- A text of this session: the functions of the law FnSchemeBack, by a program that calls the kit's print and lays this session's own contracts of single functions beside. -/
import Derived.Test.YtmkpkpkcoieeiaaXFnSchemeBackx0
import Derived.Test.YtmkpkpkcoieeiaaXFnSchemeBackx1
import Derived.Test.YtmkpkpkcoieeiaaXFnSchemeBackx2
namespace Go.Proofs.Ytmkpkpkcoieeiaa.XFnSchemeBack
open Go.RowKit Go.Proofs.YtmkpkpkcoieeiaaW.PrintWords Go.Proofs.YtmkpkpkcoieeiaaW.PrintLast Go.Proofs.YtmkpkpkcoieeiaaW.PrintMore
attribute [local go_sem] max2_int min2_int max_two min_two max_three min_three max_four min_four   -- for this text's walks alone
set_option linter.unusedVariables false
set_option linter.unusedSimpArgs false

end Go.Proofs.Ytmkpkpkcoieeiaa.XFnSchemeBack
