/- The words of this seat's print, as far as this law needs them. -/
import Derived.Test.YtmkpkpkcoieeiaaWN
namespace Go.Proofs.YtmkpkpkcoieeiaaW.PrintWords
open Go.RowKit
namespace Kd
section
variable {α : Type} {d : Kd α} {W : World} {g n : Nat} {S ok : Nat → Prop} {A : Option Addr} {ad : Addr} {xs : List α}
end
end Kd
end Go.Proofs.YtmkpkpkcoieeiaaW.PrintWords

