/- The pure statement of the law FnLabelEnds: its definition. -/
import Derived.Test.YtkhodhebhjbfpaaLabG
import Derived.Test.YtkhodhebhjbfpaaOpen
namespace Go.Proofs.Ytkhodhebhjbfpaa.QFnLabelEnds
open Go.RowKit Go.Proofs.Ytkhodhebhjbfpaa.Open Go.Proofs.Ytkhodhebhjbfpaa.LabG Go.Proofs.YtkhodhebhjbfpaaW.PrintWords Go.Proofs.Ytkhodhebhjbfpaa.XFnLabelEnds
/-- The pure statement. -/
def Pure : Prop := ∀ (x0 : Int) (x1 : (List S28)), (Lit.int .u8 x0).wf = true → (x1.length ≤ maxLen ∧ ∀ (x_ : S28), x_ ∈ x1 → (x_.f0.size ≤ maxLen ∧ x_.f1.size ≤ maxLen)) → laws_FnLabelEnds.f x0 x1 = some true
end Go.Proofs.Ytkhodhebhjbfpaa.QFnLabelEnds
