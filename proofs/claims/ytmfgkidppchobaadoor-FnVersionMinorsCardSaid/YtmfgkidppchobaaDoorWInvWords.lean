import Derived.Test.YtmfgkidppchobaaDoorWInv
import Derived.Test.YtmfgkidppchobaaDoorWFootNe
namespace Go.Proofs.YtmfgkidppchobaaDoorW.PrintWords
open Go.RowKit
end Go.Proofs.YtmfgkidppchobaaDoorW.PrintWords
namespace Go.Proofs.YtmfgkidppchobaaDoorW.PrintLast
section
variable {ops : Array Oper} {a : Act} {o og : Oper} {g : Nat} {t : Tmp} {u : Bool}
end
end Go.Proofs.YtmfgkidppchobaaDoorW.PrintLast

