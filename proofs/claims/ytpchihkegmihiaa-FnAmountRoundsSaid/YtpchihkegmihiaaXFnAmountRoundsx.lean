/- A text of this session: the functions of the law FnAmountRounds, by a program that calls the kit's print and lays this session's own contracts of single functions beside. -/
import Derived.Test.YtpchihkegmihiaaXFnAmountRoundsx0
import Derived.Test.YtpchihkegmihiaaXFnAmountRoundsx1
import Derived.Test.YtpchihkegmihiaaXFnAmountRoundsx2
import Derived.Test.YtpchihkegmihiaaXFnAmountRoundsx3
import Derived.Test.YtpchihkegmihiaaXFnAmountRoundsx4
import Derived.Test.YtpchihkegmihiaaXFnAmountRoundsx5
import Derived.Test.YtpchihkegmihiaaXFnAmountRoundsx6
import Derived.Test.YtpchihkegmihiaaXFnAmountRoundsx7
namespace Go.Proofs.Ytpchihkegmihiaa.XFnAmountRounds
open Go.RowKit Go.Proofs.YtpchihkegmihiaaW.PrintWords Go.Proofs.YtpchihkegmihiaaW.PrintLast Go.Proofs.YtpchihkegmihiaaW.PrintMore
attribute [local go_sem] max2_int min2_int max_two min_two max_three min_three max_four min_four   -- for this text's walks alone
set_option linter.unusedVariables false
set_option linter.unusedSimpArgs false

end Go.Proofs.Ytpchihkegmihiaa.XFnAmountRounds
