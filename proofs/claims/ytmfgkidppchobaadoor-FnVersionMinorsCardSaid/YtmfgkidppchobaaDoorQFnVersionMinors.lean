/- The pure statement of the law FnVersionMinors: its definition. -/
import Derived.Test.YtmfgkidppchobaaDoorXFnVersionMinorsx3
import Derived.Test.YtmfgkidppchobaaDoorOpen
namespace Go.Proofs.YtmfgkidppchobaaDoor.QFnVersionMinors
open Go.RowKit Go.Proofs.YtmfgkidppchobaaDoor.Open Go.Proofs.YtmfgkidppchobaaDoor.XFnVersionMinors Go.Proofs.YtmfgkidppchobaaDoorW.PrintWords
/-- The pure statement. -/
def Pure : Prop := ∀ (x0 : Int) (x1 : Int) (x2 : Int), (Lit.int .u64 x0).wf = true → (Lit.int .u32 x1).wf = true → (Lit.int .u32 x2).wf = true → ∃ k, laws_FnVersionMinors.f k x0 x1 x2 = some true
end Go.Proofs.YtmfgkidppchobaaDoor.QFnVersionMinors
