/- The pure statement of the law FnVersionBack: its definition. -/
import Derived.Test.YtmfgkidppchobaaDoorVerB
import Derived.Test.YtmfgkidppchobaaDoorOpen
namespace Go.Proofs.YtmfgkidppchobaaDoor.QFnVersionBack
open Go.RowKit Go.Proofs.YtmfgkidppchobaaDoor.Open Go.Proofs.YtmfgkidppchobaaDoor.VerB Go.Proofs.YtmfgkidppchobaaDoorW.PrintWords
/-- The pure statement. -/
def Pure : Prop := ∀ (x0 : Int) (x1 : ByteArray), (Lit.int .i64 x0).wf = true → x1.size ≤ maxLen → laws_FnVersionBack.f x0 x1 = some true
end Go.Proofs.YtmfgkidppchobaaDoor.QFnVersionBack
