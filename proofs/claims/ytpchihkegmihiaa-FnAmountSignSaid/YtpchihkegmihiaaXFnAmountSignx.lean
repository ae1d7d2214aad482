/- A text of this session: the functions of the law FnAmountSign, by a program that calls the kit's print and lays this session's own contracts of single functions beside. -/
import Derived.Test.YtpchihkegmihiaaXFnAmountSignx0
import Derived.Test.YtpchihkegmihiaaXFnAmountSignx1
import Derived.Test.YtpchihkegmihiaaXFnAmountSignx2
import Derived.Test.YtpchihkegmihiaaXFnAmountSignx3
import Derived.Test.YtpchihkegmihiaaXFnAmountSignx4
import Derived.Test.YtpchihkegmihiaaXFnAmountSignx5
import Derived.Test.YtpchihkegmihiaaXFnAmountSignx6
import Derived.Test.YtpchihkegmihiaaXFnAmountSignx7
namespace Go.Proofs.Ytpchihkegmihiaa.XFnAmountSign
open Go.RowKit Go.Proofs.YtpchihkegmihiaaW.PrintWords Go.Proofs.YtpchihkegmihiaaW.PrintLast Go.Proofs.YtpchihkegmihiaaW.PrintMore
attribute [local go_sem] max2_int min2_int max_two min_two max_three min_three max_four min_four   -- for this text's walks alone
set_option linter.unusedVariables false
set_option linter.unusedSimpArgs false

end Go.Proofs.Ytpchihkegmihiaa.XFnAmountSign
