/- The pure statement of the law FnIntStrValue: its definition. -/
import Derived.Test.YtmkpkpkcoieeiaaDoorXFnIntStrValuex2
import Derived.Test.YtmkpkpkcoieeiaaDoorOpen
namespace Go.Proofs.YtmkpkpkcoieeiaaDoor.QFnIntStrValue
open Go.RowKit Go.Proofs.YtmkpkpkcoieeiaaDoor.Open Go.Proofs.YtmkpkpkcoieeiaaDoor.XFnIntStrValue Go.Proofs.YtmkpkpkcoieeiaaDoorW.PrintWords
/-- The pure statement. -/
def Pure : Prop := ∀ (x0 : (Int × Int × ByteArray)), ((Lit.int .i64 x0.1).wf = true ∧ ((Lit.int .i32 x0.2.1).wf = true ∧ x0.2.2.size ≤ maxLen)) → ∃ k, laws_FnIntStrValue.f k x0.1 x0.2.1 x0.2.2 = some true
end Go.Proofs.YtmkpkpkcoieeiaaDoor.QFnIntStrValue
