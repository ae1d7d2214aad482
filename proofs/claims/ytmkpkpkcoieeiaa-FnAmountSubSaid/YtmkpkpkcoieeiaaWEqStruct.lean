/- The words of this seat's print, as far as this law needs them. -/
import Derived.Test.YtmkpkpkcoieeiaaWWords
import Derived.Laws.StructEq
namespace Go.Proofs.YtmkpkpkcoieeiaaW.PrintWords
open Go.RowKit
section
variable {P : Program} {d : Nat} {xs ys : Array Value} {f : Field} {fs : List Field} {a b : Value} {r s : Bool} {w : World}
end
end Go.Proofs.YtmkpkpkcoieeiaaW.PrintWords

