/- The pure statement of the law FnKindEmpty: its definition. -/
import Derived.Test.YtehgokciafpnbaaLFnKindEmpty
import Derived.Test.YtehgokciafpnbaaOpen
namespace Go.Proofs.Ytehgokciafpnbaa.QFnKindEmpty
open Go.RowKit Go.Proofs.Ytehgokciafpnbaa.Open Go.Proofs.Ytehgokciafpnbaa.LFnKindEmpty Go.Proofs.YtehgokciafpnbaaW.PrintWords
/-- The pure statement. -/
def Pure : Prop := ∀ (x0 : (ByteArray × ByteArray × ByteArray)), (x0.1.size ≤ maxLen ∧ (x0.2.1.size ≤ maxLen ∧ x0.2.2.size ≤ maxLen)) → laws_FnKindEmpty.f x0.1 x0.2.1 x0.2.2 = some true
end Go.Proofs.Ytehgokciafpnbaa.QFnKindEmpty
