/- A text of this session: the functions of the law FnPorts, by a program that calls the kit's print and lays this session's own contracts of single functions beside. -/
import Derived.Test.YtmkpkpkcoieeiabDoorXFnPortsx0
import Derived.Test.YtmkpkpkcoieeiabDoorXFnPortsx1
import Derived.Test.YtmkpkpkcoieeiabDoorXFnPortsx2
import Derived.Test.YtmkpkpkcoieeiabDoorXFnPortsx3
namespace Go.Proofs.YtmkpkpkcoieeiabDoor.XFnPorts
open Go.RowKit Go.Proofs.YtmkpkpkcoieeiabDoorW.PrintWords Go.Proofs.YtmkpkpkcoieeiabDoorW.PrintLast Go.Proofs.YtmkpkpkcoieeiabDoorW.PrintMore
attribute [local go_sem] max2_int min2_int max_two min_two max_three min_three max_four min_four   -- for this text's walks alone
set_option linter.unusedVariables false
set_option linter.unusedSimpArgs false

end Go.Proofs.YtmkpkpkcoieeiabDoor.XFnPorts
