/- The pure statement of the law FnStringSetSays: its definition. -/
import Derived.Test.YtmipenoiodjbhaaSayLaw
import Derived.Test.YtmipenoiodjbhaaOpen
namespace Go.Proofs.Ytmipenoiodjbhaa.QFnStringSetSays
open Go.RowKit Go.Proofs.Ytmipenoiodjbhaa.Open Go.Proofs.Ytmipenoiodjbhaa.SayLaw Go.Proofs.YtmipenoiodjbhaaW.PrintWords
/-- The pure statement. -/
def Pure : Prop := ∀ (x0 : Int) (x1 : (List ByteArray)) (x2 : (List ByteArray)) (x3 : (List ByteArray)), (Lit.int .u8 x0).wf = true → (x1.length ≤ maxLen ∧ ∀ (x_ : ByteArray), x_ ∈ x1 → x_.size ≤ maxLen) → (x2.length ≤ maxLen ∧ ∀ (x_ : ByteArray), x_ ∈ x2 → x_.size ≤ maxLen) → (x3.length ≤ maxLen ∧ ∀ (x_ : ByteArray), x_ ∈ x3 → x_.size ≤ maxLen) → laws_FnStringSetSays.f x0 x1 x2 x3 = some true
end Go.Proofs.Ytmipenoiodjbhaa.QFnStringSetSays
