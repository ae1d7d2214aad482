/- The pure statement of the law FnFieldExact: its definition. -/
import Derived.Test.YtccdnmachpepcaaDoorXFnFieldExactx5
import Derived.Test.YtccdnmachpepcaaDoorOpen
namespace Go.Proofs.YtccdnmachpepcaaDoor.QFnFieldExact
open Go.RowKit Go.Proofs.YtccdnmachpepcaaDoor.Open Go.Proofs.YtccdnmachpepcaaDoor.XFnFieldExact Go.Proofs.YtccdnmachpepcaaDoorW.PrintWords
/-- The pure statement. -/
def Pure : Prop := ∀ (x0 : ByteArray) (x1 : ByteArray) (x2 : (List S40)), x0.size ≤ maxLen → x1.size ≤ maxLen → (x2.length ≤ maxLen ∧ ∀ (x_ : S40), x_ ∈ x2 → (x_.f0.size ≤ maxLen ∧ x_.f1.size ≤ maxLen)) → ∃ k, laws_FnFieldExact.f k x0 x1 x2 = some true
end Go.Proofs.YtccdnmachpepcaaDoor.QFnFieldExact
