/- The words of this seat's print, as far as this law needs them. -/
import Derived.Test.YtmkpkpkcoieeiaaWTab
namespace Go.Proofs.YtmkpkpkcoieeiaaW.PrintLast
section
variable {P : Program} {ops : Array Oper} {Q : Exit → Act → World → Prop} {md : Region.Mode} {S : World → Prop} {ds : List Nat} {T : Bool × List (List Nat × List Nat)}
end
end Go.Proofs.YtmkpkpkcoieeiaaW.PrintLast

