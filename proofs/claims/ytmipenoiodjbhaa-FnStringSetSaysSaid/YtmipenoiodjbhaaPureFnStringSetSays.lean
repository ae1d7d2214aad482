/- For every question and all rows of texts the law tells true: HasAll, HasAny, IsSuperset, Equal and Has of sets of texts tell what they say, and change nothing; rows or texts of more than 2^31 - 1 are let through by its guard. No condition. -/
import Derived.Test.YtmipenoiodjbhaaQFnStringSetSays
namespace Go.Proofs.Ytmipenoiodjbhaa.Pure
open Go.Proofs.Ytmipenoiodjbhaa.SayLaw
theorem FnStringSetSays : Go.Proofs.Ytmipenoiodjbhaa.QFnStringSetSays.Pure := fun x0 x1 x2 x3 h0 h1 h2 h3 => by
  unfold laws_FnStringSetSays.f
  have e : IntKind.u8.min = 0 := rfl
  have e2 : IntKind.u8.max = 255 := rfl
  rw [if_pos ⟨by simp [Lit.wf, e, e2] at h0; omega, by simp [Lit.wf, e, e2] at h0; omega, h1.2, h2.2, h3.2⟩]
end Go.Proofs.Ytmipenoiodjbhaa.Pure
