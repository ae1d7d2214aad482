/- A text of this session: the functions of the law FnFieldUnescape, by a program that calls the kit's print and lays this session's own contracts of single functions beside. -/
import Derived.Test.YtmkpkpkcoieeiabDoorXFnFieldUnescapex0
import Derived.Test.YtmkpkpkcoieeiabDoorXFnFieldUnescapex1
namespace Go.Proofs.YtmkpkpkcoieeiabDoor.XFnFieldUnescape
open Go.RowKit Go.Proofs.YtmkpkpkcoieeiabDoorW.PrintWords Go.Proofs.YtmkpkpkcoieeiabDoorW.PrintLast Go.Proofs.YtmkpkpkcoieeiabDoorW.PrintMore
attribute [local go_sem] max2_int min2_int max_two min_two max_three min_three max_four min_four   -- for this text's walks alone
set_option linter.unusedVariables false
set_option linter.unusedSimpArgs false

end Go.Proofs.YtmkpkpkcoieeiabDoor.XFnFieldUnescape
