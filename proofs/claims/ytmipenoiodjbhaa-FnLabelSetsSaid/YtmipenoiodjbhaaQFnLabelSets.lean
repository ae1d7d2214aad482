/- The pure statement of the law FnLabelSets: its definition. -/
import Derived.Test.YtmipenoiodjbhaaLabLaw
import Derived.Test.YtmipenoiodjbhaaOpen
namespace Go.Proofs.Ytmipenoiodjbhaa.QFnLabelSets
open Go.RowKit Go.Proofs.Ytmipenoiodjbhaa.Open Go.Proofs.Ytmipenoiodjbhaa.LabLaw Go.Proofs.YtmipenoiodjbhaaW.PrintWords Go.Proofs.Ytmipenoiodjbhaa.XFnLabelSets
/-- The pure statement. -/
def Pure : Prop := ∀ (x0 : (List S44)) (x1 : (List S44)), (x0.length ≤ maxLen ∧ ∀ (x_ : S44), x_ ∈ x0 → (x_.f0.size ≤ maxLen ∧ x_.f1.size ≤ maxLen)) → (x1.length ≤ maxLen ∧ ∀ (x_ : S44), x_ ∈ x1 → (x_.f0.size ≤ maxLen ∧ x_.f1.size ≤ maxLen)) → laws_FnLabelSets.f x0 x1 = some true
end Go.Proofs.Ytmipenoiodjbhaa.QFnLabelSets
