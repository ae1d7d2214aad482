/- A text of this session: the functions of the law FnResourceVersionOrder, by a program that calls the kit's print and lays this session's own contracts of single functions beside. -/
import Derived.Test.YtgmkfalnncaacaaXFnResourceVersionOrderx0
import Derived.Test.YtgmkfalnncaacaaXFnResourceVersionOrderx1
namespace Go.Proofs.Ytgmkfalnncaacaa.XFnResourceVersionOrder
open Go.RowKit Go.Proofs.YtgmkfalnncaacaaW.PrintWords Go.Proofs.YtgmkfalnncaacaaW.PrintLast Go.Proofs.YtgmkfalnncaacaaW.PrintMore
attribute [local go_sem] max2_int min2_int max_two min_two max_three min_three max_four min_four   -- for this text's walks alone
set_option linter.unusedVariables false
set_option linter.unusedSimpArgs false

end Go.Proofs.Ytgmkfalnncaacaa.XFnResourceVersionOrder
