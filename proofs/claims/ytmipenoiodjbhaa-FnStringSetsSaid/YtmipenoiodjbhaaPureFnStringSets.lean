/- For every operation and all rows of texts the law tells true: each operation on two sets of texts makes what it is by definition, sorted byte by byte; rows or texts of more than 2^31 - 1 are let through by its guard. No condition. -/
import Derived.Test.YtmipenoiodjbhaaQFnStringSets
namespace Go.Proofs.Ytmipenoiodjbhaa.Pure
open Go.Proofs.Ytmipenoiodjbhaa.StrLaw
theorem FnStringSets : Go.Proofs.Ytmipenoiodjbhaa.QFnStringSets.Pure := fun x0 x1 x2 x3 h0 h1 h2 h3 => by
  unfold laws_FnStringSets.f
  have e : IntKind.u8.min = 0 := rfl
  rw [if_pos ⟨by simp [Lit.wf, e] at h0; omega, h1.2, h2.2, h3.2⟩]
end Go.Proofs.Ytmipenoiodjbhaa.Pure
