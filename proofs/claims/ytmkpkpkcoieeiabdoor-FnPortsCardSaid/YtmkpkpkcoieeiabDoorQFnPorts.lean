/- The pure statement of the law FnPorts: its definition. -/
import Derived.Test.YtmkpkpkcoieeiabDoorXFnPortsx3
import Derived.Test.YtmkpkpkcoieeiabDoorOpen
namespace Go.Proofs.YtmkpkpkcoieeiabDoor.QFnPorts
open Go.RowKit Go.Proofs.YtmkpkpkcoieeiabDoor.Open Go.Proofs.YtmkpkpkcoieeiabDoor.XFnPorts Go.Proofs.YtmkpkpkcoieeiabDoorW.PrintWords
/-- The pure statement. -/
def Pure : Prop := ∀ (x0 : Int) (x1 : Int) (x2 : Int), (Lit.int .u8 x0).wf = true → (Lit.int .u16 x1).wf = true → (Lit.int .u16 x2).wf = true → ∃ k, laws_FnPorts.f k x0 x1 x2 = some true
end Go.Proofs.YtmkpkpkcoieeiabDoor.QFnPorts
