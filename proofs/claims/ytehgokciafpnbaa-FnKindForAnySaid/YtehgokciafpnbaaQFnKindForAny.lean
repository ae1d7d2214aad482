/- The pure statement of the law FnKindForAny: its definition. -/
import Derived.Test.YtehgokciafpnbaaXFnKindForAnyx5
import Derived.Test.YtehgokciafpnbaaOpen
namespace Go.Proofs.Ytehgokciafpnbaa.QFnKindForAny
open Go.RowKit Go.Proofs.Ytehgokciafpnbaa.Open Go.Proofs.Ytehgokciafpnbaa.XFnKindForAny Go.Proofs.YtehgokciafpnbaaW.PrintWords
/-- The pure statement. -/
def Pure : Prop := ∀ (x0 : (List S26)) (x1 : (List S26)), (x0.length ≤ maxLen ∧ ∀ (x_ : S26), x_ ∈ x0 → (x_.f0.size ≤ maxLen ∧ (x_.f1.size ≤ maxLen ∧ x_.f2.size ≤ maxLen))) → (x1.length ≤ maxLen ∧ ∀ (x_ : S26), x_ ∈ x1 → (x_.f0.size ≤ maxLen ∧ (x_.f1.size ≤ maxLen ∧ x_.f2.size ≤ maxLen))) → ∃ k, laws_FnKindForAny.f k x0 x1 = some true
end Go.Proofs.Ytehgokciafpnbaa.QFnKindForAny
