/- The pure statement of the law FnIntStrParse: its definition. -/
import Derived.Test.YtmkpkpkcoieeiaaDoorXFnIntStrParsex3
import Derived.Test.YtmkpkpkcoieeiaaDoorOpen
namespace Go.Proofs.YtmkpkpkcoieeiaaDoor.QFnIntStrParse
open Go.RowKit Go.Proofs.YtmkpkpkcoieeiaaDoor.Open Go.Proofs.YtmkpkpkcoieeiaaDoor.XFnIntStrParse Go.Proofs.YtmkpkpkcoieeiaaDoorW.PrintWords
/-- The pure statement. -/
def Pure : Prop := ∀ (x0 : ByteArray), x0.size ≤ maxLen → ∃ k, laws_FnIntStrParse.f k x0 = some true
end Go.Proofs.YtmkpkpkcoieeiaaDoor.QFnIntStrParse
