/- The pure statement of the law FnVersionOrder: its definition. -/
import Derived.Test.YtmfgkidppchobaaDoorXFnVersionOrderx10
import Derived.Test.YtmfgkidppchobaaDoorOpen
namespace Go.Proofs.YtmfgkidppchobaaDoor.QFnVersionOrder
open Go.RowKit Go.Proofs.YtmfgkidppchobaaDoor.Open Go.Proofs.YtmfgkidppchobaaDoor.XFnVersionOrder Go.Proofs.YtmfgkidppchobaaDoorW.PrintWords
/-- The pure statement. -/
def Pure : Prop := ∀ (x0 : Int) (x1 : ByteArray) (x2 : Int) (x3 : ByteArray), (Lit.int .i64 x0).wf = true → x1.size ≤ maxLen → (Lit.int .i64 x2).wf = true → x3.size ≤ maxLen → ∃ k, laws_FnVersionOrder.f k x0 x1 x2 x3 = some true
end Go.Proofs.YtmfgkidppchobaaDoor.QFnVersionOrder
