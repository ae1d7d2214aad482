/- The pure statement of the law FnPortsWrong: its definition. -/
import Derived.Test.YtmkpkpkcoieeiabDoorXFnPortsWrongx4
import Derived.Test.YtmkpkpkcoieeiabDoorOpen
namespace Go.Proofs.YtmkpkpkcoieeiabDoor.QFnPortsWrong
open Go.RowKit Go.Proofs.YtmkpkpkcoieeiabDoor.Open Go.Proofs.YtmkpkpkcoieeiabDoor.XFnPortsWrong Go.Proofs.YtmkpkpkcoieeiabDoorW.PrintWords
/-- The pure statement. -/
def Pure : Prop := ∀ (x0 : Int) (x1 : Int) (x2 : Int) (x3 : Int), (Lit.int .i64 x0).wf = true → (Lit.int .i64 x1).wf = true → (Lit.int .u8 x2).wf = true → (Lit.int .u8 x3).wf = true → ∃ k, laws_FnPortsWrong.f k x0 x1 x2 x3 = some true
end Go.Proofs.YtmkpkpkcoieeiabDoor.QFnPortsWrong
