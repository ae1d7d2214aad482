/- The pure statement of the law FnKubeCompare: its definition. -/
import Derived.Test.YtmkpkpkcoieeiaaDoorXFnKubeComparex6
import Derived.Test.YtmkpkpkcoieeiaaDoorOpen
namespace Go.Proofs.YtmkpkpkcoieeiaaDoor.QFnKubeCompare
open Go.RowKit Go.Proofs.YtmkpkpkcoieeiaaDoor.Open Go.Proofs.YtmkpkpkcoieeiaaDoor.XFnKubeCompare Go.Proofs.YtmkpkpkcoieeiaaDoorW.PrintWords
/-- The pure statement. -/
def Pure : Prop := ∀ (x0 : ByteArray) (x1 : ByteArray), x0.size ≤ maxLen → x1.size ≤ maxLen → ∃ k, laws_FnKubeCompare.f k x0 x1 = some true
end Go.Proofs.YtmkpkpkcoieeiaaDoor.QFnKubeCompare
