/- The pure statement of the law FnIntStrCut: its definition. -/
import Derived.Test.YtmkpkpkcoieeiabDoorZFnIntStrCut
import Derived.Test.YtmkpkpkcoieeiabDoorOpen
namespace Go.Proofs.YtmkpkpkcoieeiabDoor.QFnIntStrCut
open Go.RowKit Go.Proofs.YtmkpkpkcoieeiabDoor.Open Go.Proofs.YtmkpkpkcoieeiabDoor.ZFnIntStrCut Go.Proofs.YtmkpkpkcoieeiabDoorW.PrintWords
/-- The pure statement. -/
def Pure : Prop := ∀ (x0 : (Int × Int × ByteArray)) (x1 : Int), ((Lit.int .i64 x0.1).wf = true ∧ ((Lit.int .i32 x0.2.1).wf = true ∧ x0.2.2.size ≤ maxLen)) → (Lit.int .u8 x1).wf = true → laws_FnIntStrCut.f x0.1 x0.2.1 x0.2.2 x1 = some true
end Go.Proofs.YtmkpkpkcoieeiabDoor.QFnIntStrCut
