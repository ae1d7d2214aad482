/- For every choice and every set of labels the law tells true: everything and a new selector match all labels, and are empty; Nothing matches none, is not empty, and is known to match nothing; sets or texts of more than 2^31 - 1 are let through by its guard. No condition. -/
import Derived.Test.YtkhodhebhjbfpaaQFnLabelEnds
namespace Go.Proofs.Ytkhodhebhjbfpaa.Pure
open Go.Proofs.Ytkhodhebhjbfpaa.LabG
theorem FnLabelEnds : Go.Proofs.Ytkhodhebhjbfpaa.QFnLabelEnds.Pure := fun x0 x1 h0 h1 => by
  unfold laws_FnLabelEnds.f
  have e1 : Go.IntKind.u8.min = 0 := rfl
  have e2 : Go.IntKind.u8.max = 255 := rfl
  have h : 0 ≤ x0 ∧ x0 ≤ 255 := by simpa [Go.Lit.wf, e1, e2] using h0
  rw [if_pos ⟨by omega, by omega, fun p hp => h1.2 p hp⟩]
end Go.Proofs.Ytkhodhebhjbfpaa.Pure
