/- A text of this session: the functions of the law FnArgBoth, by a program that calls the kit's print and lays this session's own contracts of single functions beside. -/
import Derived.Test.YtehgokciafpnbabXFnArgBothx0
import Derived.Test.YtehgokciafpnbabXFnArgBothx1
import Derived.Test.YtehgokciafpnbabXFnArgBothx2
import Derived.Test.YtehgokciafpnbabXFnArgBothx3
import Derived.Test.YtehgokciafpnbabXFnArgBothx4
namespace Go.Proofs.Ytehgokciafpnbab.XFnArgBoth
open Go.RowKit Go.Proofs.YtehgokciafpnbabW.PrintWords Go.Proofs.YtehgokciafpnbabW.PrintLast Go.Proofs.YtehgokciafpnbabW.PrintMore
attribute [local go_sem] max2_int min2_int max_two min_two max_three min_three max_four min_four   -- for this text's walks alone
set_option linter.unusedVariables false
set_option linter.unusedSimpArgs false

end Go.Proofs.Ytehgokciafpnbab.XFnArgBoth
