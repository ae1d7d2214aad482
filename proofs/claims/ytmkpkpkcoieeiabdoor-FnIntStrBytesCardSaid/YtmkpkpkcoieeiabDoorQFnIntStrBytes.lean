/- The pure statement of the law FnIntStrBytes: its definition. -/
import Derived.Test.YtmkpkpkcoieeiabDoorZFnIntStrBytes
import Derived.Test.YtmkpkpkcoieeiabDoorOpen
namespace Go.Proofs.YtmkpkpkcoieeiabDoor.QFnIntStrBytes
open Go.RowKit Go.Proofs.YtmkpkpkcoieeiabDoor.Open Go.Proofs.YtmkpkpkcoieeiabDoor.ZFnIntStrBytes Go.Proofs.YtmkpkpkcoieeiabDoorW.PrintWords
/-- The pure statement. -/
def Pure : Prop := ∀ (x0 : (Int × Int × ByteArray)), ((Lit.int .i64 x0.1).wf = true ∧ ((Lit.int .i32 x0.2.1).wf = true ∧ x0.2.2.size ≤ maxLen)) → laws_FnIntStrBytes.f x0.1 x0.2.1 x0.2.2 = some true
end Go.Proofs.YtmkpkpkcoieeiabDoor.QFnIntStrBytes
