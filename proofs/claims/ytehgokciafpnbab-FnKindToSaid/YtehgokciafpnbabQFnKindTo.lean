/- The pure statement of the law FnKindTo: its definition. -/
import Derived.Test.YtehgokciafpnbabXFnKindTox4
import Derived.Test.YtehgokciafpnbabOpen
namespace Go.Proofs.Ytehgokciafpnbab.QFnKindTo
open Go.RowKit Go.Proofs.Ytehgokciafpnbab.Open Go.Proofs.Ytehgokciafpnbab.XFnKindTo Go.Proofs.YtehgokciafpnbabW.PrintWords
/-- The pure statement. -/
def Pure : Prop := ∀ (x0 : (ByteArray × ByteArray × ByteArray)), (x0.1.size ≤ maxLen ∧ (x0.2.1.size ≤ maxLen ∧ x0.2.2.size ≤ maxLen)) → ∃ k, laws_FnKindTo.f k x0.1 x0.2.1 x0.2.2 = some true
end Go.Proofs.Ytehgokciafpnbab.QFnKindTo
