/- The pure statement of the law FnAmountSign: its definition. -/
import Derived.Test.YtpchihkegmihiaaXFnAmountSignx7
import Derived.Test.YtpchihkegmihiaaOpen
namespace Go.Proofs.Ytpchihkegmihiaa.QFnAmountSign
open Go.RowKit Go.Proofs.Ytpchihkegmihiaa.Open Go.Proofs.Ytpchihkegmihiaa.XFnAmountSign Go.Proofs.YtpchihkegmihiaaW.PrintWords
/-- The pure statement. -/
def Pure : Prop := ∀ (x0 : (Int × Int)), ((Lit.int .i64 x0.1).wf = true ∧ (Lit.int .i64 x0.2).wf = true) → ∃ k, laws_FnAmountSign.f k x0.1 x0.2 = some true
end Go.Proofs.Ytpchihkegmihiaa.QFnAmountSign
