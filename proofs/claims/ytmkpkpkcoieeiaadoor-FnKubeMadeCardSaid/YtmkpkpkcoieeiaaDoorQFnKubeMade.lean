/- The pure statement of the law FnKubeMade: its definition. -/
import Derived.Test.YtmkpkpkcoieeiaaDoorXFnKubeMadexz
import Derived.Test.YtmkpkpkcoieeiaaDoorOpen
namespace Go.Proofs.YtmkpkpkcoieeiaaDoor.QFnKubeMade
open Go.RowKit Go.Proofs.YtmkpkpkcoieeiaaDoor.Open Go.Proofs.YtmkpkpkcoieeiaaDoor.XFnKubeMade Go.Proofs.YtmkpkpkcoieeiaaDoorW.PrintWords
/-- The pure statement. -/
def Pure : Prop := ∀ (x0 : Int) (x1 : Int) (x2 : Int) (x3 : Int) (x4 : Int) (x5 : Int), (Lit.int .u8 x0).wf = true → (Lit.int .u8 x1).wf = true → (Lit.int .u32 x2).wf = true → (Lit.int .u32 x3).wf = true → (Lit.int .u32 x4).wf = true → (Lit.int .u32 x5).wf = true → ∃ k, laws_FnKubeMade.f k x0 x1 x2 x3 x4 x5 = some true
end Go.Proofs.YtmkpkpkcoieeiaaDoor.QFnKubeMade
