/- A text of this session: the functions of the law FnFieldPiece, by a program that calls the kit's print and lays this session's own contracts of single functions beside. -/
import Derived.Test.YtehgokciafpnbaaXFnFieldPiecex0
import Derived.Test.YtehgokciafpnbaaXFnFieldPiecex1
namespace Go.Proofs.Ytehgokciafpnbaa.XFnFieldPiece
open Go.RowKit Go.Proofs.YtehgokciafpnbaaW.PrintWords Go.Proofs.YtehgokciafpnbaaW.PrintLast Go.Proofs.YtehgokciafpnbaaW.PrintMore
attribute [local go_sem] max2_int min2_int max_two min_two max_three min_three max_four min_four   -- for this text's walks alone
set_option linter.unusedVariables false
set_option linter.unusedSimpArgs false

end Go.Proofs.Ytehgokciafpnbaa.XFnFieldPiece
