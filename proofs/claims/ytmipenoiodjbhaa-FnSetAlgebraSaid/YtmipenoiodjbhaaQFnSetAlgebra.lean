/- The pure statement of the law FnSetAlgebra: its definition. -/
import Derived.Test.YtmipenoiodjbhaaZFnSetAlgebra
import Derived.Test.YtmipenoiodjbhaaOpen
namespace Go.Proofs.Ytmipenoiodjbhaa.QFnSetAlgebra
open Go.RowKit Go.Proofs.Ytmipenoiodjbhaa.Open Go.Proofs.Ytmipenoiodjbhaa.ZFnSetAlgebra Go.Proofs.YtmipenoiodjbhaaW.PrintWords
/-- The pure statement. -/
def Pure : Prop := ∀ (x0 : (List Int)) (x1 : (List Int)), (x0.length ≤ maxLen ∧ ∀ (x_ : Int), x_ ∈ x0 → (Lit.int .i64 x_).wf = true) → (x1.length ≤ maxLen ∧ ∀ (x_ : Int), x_ ∈ x1 → (Lit.int .i64 x_).wf = true) → laws_FnSetAlgebra.f x0 x1 = some true
end Go.Proofs.Ytmipenoiodjbhaa.QFnSetAlgebra
