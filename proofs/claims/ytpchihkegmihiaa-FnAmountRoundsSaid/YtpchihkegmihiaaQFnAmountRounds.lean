/- The pure statement of the law FnAmountRounds: its definition. -/
import Derived.Test.YtpchihkegmihiaaXFnAmountRoundsx7
import Derived.Test.YtpchihkegmihiaaOpen
namespace Go.Proofs.Ytpchihkegmihiaa.QFnAmountRounds
open Go.RowKit Go.Proofs.Ytpchihkegmihiaa.Open Go.Proofs.Ytpchihkegmihiaa.XFnAmountRounds Go.Proofs.YtpchihkegmihiaaW.PrintWords
/-- The pure statement. -/
def Pure : Prop := ∀ (x0 : (Int × Int)) (x1 : Int), ((Lit.int .i64 x0.1).wf = true ∧ (Lit.int .i64 x0.2).wf = true) → (Lit.int .i64 x1).wf = true → ∃ k, laws_FnAmountRounds.f k x0.1 x0.2 x1 = some true
end Go.Proofs.Ytpchihkegmihiaa.QFnAmountRounds
