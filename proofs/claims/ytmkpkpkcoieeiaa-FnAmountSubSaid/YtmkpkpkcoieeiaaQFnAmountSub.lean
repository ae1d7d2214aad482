/- The pure statement of the law FnAmountSub: its definition. -/
import Derived.Test.YtmkpkpkcoieeiaaZFnAmountSubx
import Derived.Test.YtmkpkpkcoieeiaaOpen
namespace Go.Proofs.Ytmkpkpkcoieeiaa.QFnAmountSub
open Go.RowKit Go.Proofs.Ytmkpkpkcoieeiaa.Open Go.Proofs.Ytmkpkpkcoieeiaa.ZFnAmountSub Go.Proofs.YtmkpkpkcoieeiaaW.PrintWords
/-- The pure statement. -/
def Pure : Prop := ∀ (x0 : (Int × Int)) (x1 : (Int × Int)), ((Lit.int .i64 x0.1).wf = true ∧ (Lit.int .i64 x0.2).wf = true) → ((Lit.int .i64 x1.1).wf = true ∧ (Lit.int .i64 x1.2).wf = true) → ∃ k, laws_FnAmountSub.f k x0.1 x0.2 x1.1 x1.2 = some true
end Go.Proofs.Ytmkpkpkcoieeiaa.QFnAmountSub
