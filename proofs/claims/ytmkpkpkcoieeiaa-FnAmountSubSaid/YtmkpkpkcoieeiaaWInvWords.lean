/- The words of this seat's print, as far as this law needs them. -/
import Derived.Test.YtmkpkpkcoieeiaaWInv
import Derived.Test.YtmkpkpkcoieeiaaWFootNe
namespace Go.Proofs.YtmkpkpkcoieeiaaW.PrintWords
open Go.RowKit
end Go.Proofs.YtmkpkpkcoieeiaaW.PrintWords
namespace Go.Proofs.YtmkpkpkcoieeiaaW.PrintLast
section
variable {ops : Array Oper} {a : Act} {o og : Oper} {g : Nat} {t : Tmp} {u : Bool}
end
end Go.Proofs.YtmkpkpkcoieeiaaW.PrintLast

