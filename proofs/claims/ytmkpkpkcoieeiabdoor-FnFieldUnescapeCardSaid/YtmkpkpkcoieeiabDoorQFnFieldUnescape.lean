/- The pure statement of the law FnFieldUnescape: its definition. -/
import Derived.Test.YtmkpkpkcoieeiabDoorXFnFieldUnescapex1
import Derived.Test.YtmkpkpkcoieeiabDoorOpen
namespace Go.Proofs.YtmkpkpkcoieeiabDoor.QFnFieldUnescape
open Go.RowKit Go.Proofs.YtmkpkpkcoieeiabDoor.Open Go.Proofs.YtmkpkpkcoieeiabDoor.XFnFieldUnescape Go.Proofs.YtmkpkpkcoieeiabDoorW.PrintWords
/-- The pure statement. -/
def Pure : Prop := ∀ (x0 : ByteArray), x0.size ≤ maxLen → ∃ k, laws_FnFieldUnescape.f k x0 = some true
end Go.Proofs.YtmkpkpkcoieeiabDoor.QFnFieldUnescape
