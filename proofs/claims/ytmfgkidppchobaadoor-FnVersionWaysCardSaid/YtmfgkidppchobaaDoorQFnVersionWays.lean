/- The pure statement of the law FnVersionWays: its definition. -/
import Derived.Test.YtmfgkidppchobaaDoorVer9
import Derived.Test.YtmfgkidppchobaaDoorOpen
namespace Go.Proofs.YtmfgkidppchobaaDoor.QFnVersionWays
open Go.RowKit Go.Proofs.YtmfgkidppchobaaDoor.Open Go.Proofs.YtmfgkidppchobaaDoor.Ver9 Go.Proofs.YtmfgkidppchobaaDoorW.PrintWords
/-- The pure statement. -/
def Pure : Prop := ∀ (x0 : ByteArray), x0.size ≤ maxLen → laws_FnVersionWays.f x0 = some true
end Go.Proofs.YtmfgkidppchobaaDoor.QFnVersionWays
