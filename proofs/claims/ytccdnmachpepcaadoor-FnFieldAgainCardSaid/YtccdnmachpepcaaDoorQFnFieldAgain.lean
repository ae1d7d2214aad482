/- The pure statement of the law FnFieldAgain: its definition. -/
import Derived.Test.YtccdnmachpepcaaDoorXFnFieldAgainx2
import Derived.Test.YtccdnmachpepcaaDoorOpen
namespace Go.Proofs.YtccdnmachpepcaaDoor.QFnFieldAgain
open Go.RowKit Go.Proofs.YtccdnmachpepcaaDoor.Open Go.Proofs.YtccdnmachpepcaaDoor.XFnFieldAgain Go.Proofs.YtccdnmachpepcaaDoorW.PrintWords
/-- The pure statement. -/
def Pure : Prop := ∀ (x0 : ByteArray), x0.size ≤ maxLen → ∃ k, laws_FnFieldAgain.f k x0 = some true
end Go.Proofs.YtccdnmachpepcaaDoor.QFnFieldAgain
