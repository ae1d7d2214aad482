/- The pure statement of the law FnNeedNot: its definition. -/
import Derived.Test.YtjlmhfciidfjiaaDoorNdL
import Derived.Test.YtjlmhfciidfjiaaDoorOpen
namespace Go.Proofs.YtjlmhfciidfjiaaDoor.QFnNeedNot
open Go.RowKit Go.Proofs.YtjlmhfciidfjiaaDoor.Open Go.Proofs.YtjlmhfciidfjiaaDoor.NdL Go.Proofs.YtjlmhfciidfjiaaDoorW.PrintWords Go.Proofs.YtjlmhfciidfjiaaDoor.XFnNeedNot
/-- The pure statement. -/
def Pure : Prop := ∀ (x0 : ByteArray) (x1 : (List ByteArray)) (x2 : (List S35)), x0.size ≤ maxLen → (x1.length ≤ maxLen ∧ ∀ (x_ : ByteArray), x_ ∈ x1 → x_.size ≤ maxLen) → (x2.length ≤ maxLen ∧ ∀ (x_ : S35), x_ ∈ x2 → (x_.f0.size ≤ maxLen ∧ x_.f1.size ≤ maxLen)) → laws_FnNeedNot.f x0 x1 x2 = some true
end Go.Proofs.YtjlmhfciidfjiaaDoor.QFnNeedNot
