/- The pure statement of the law FnVersionCompare: its definition. -/
import Derived.Test.YtmfgkidppchobaaDoorXFnVersionComparex10
import Derived.Test.YtmfgkidppchobaaDoorOpen
namespace Go.Proofs.YtmfgkidppchobaaDoor.QFnVersionCompare
open Go.RowKit Go.Proofs.YtmfgkidppchobaaDoor.Open Go.Proofs.YtmfgkidppchobaaDoor.XFnVersionCompare Go.Proofs.YtmfgkidppchobaaDoorW.PrintWords
/-- The pure statement. -/
def Pure : Prop := ∀ (x0 : Int) (x1 : ByteArray) (x2 : ByteArray), (Lit.int .i64 x0).wf = true → x1.size ≤ maxLen → x2.size ≤ maxLen → ∃ k, laws_FnVersionCompare.f k x0 x1 x2 = some true
end Go.Proofs.YtmfgkidppchobaaDoor.QFnVersionCompare
