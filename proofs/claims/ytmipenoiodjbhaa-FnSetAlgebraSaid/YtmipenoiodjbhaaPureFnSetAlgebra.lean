/- For all two rows of numbers the law tells true: what two sets have in common, what each has alone, what either has alone, and all of it, fit together; rows of more than 2^31 - 1 numbers are let through by its guard. No condition. -/
import Derived.Test.YtmipenoiodjbhaaQFnSetAlgebra
namespace Go.Proofs.Ytmipenoiodjbhaa.Pure
open Go.Proofs.Ytmipenoiodjbhaa.ZFnSetAlgebra
theorem FnSetAlgebra : Go.Proofs.Ytmipenoiodjbhaa.QFnSetAlgebra.Pure := fun x0 x1 h0 h1 => by
  unfold laws_FnSetAlgebra.f
  rw [if_pos ⟨h0.2, h1.2⟩]
end Go.Proofs.Ytmipenoiodjbhaa.Pure
