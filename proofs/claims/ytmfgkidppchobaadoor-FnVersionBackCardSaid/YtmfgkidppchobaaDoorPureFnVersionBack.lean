/- For every way of parsing and every text the law tells true: a version's text is parsed as that version; texts of more than 2^31 - 1 bytes are let through by its guard. No condition. -/
import Derived.Test.YtmfgkidppchobaaDoorQFnVersionBack
namespace Go.Proofs.YtmfgkidppchobaaDoor.Pure
open Go.Proofs.YtmfgkidppchobaaDoor.VerB
theorem FnVersionBack : Go.Proofs.YtmfgkidppchobaaDoor.QFnVersionBack.Pure := fun x0 x1 h0 h1 => by
  unfold laws_FnVersionBack.f
  have e : IntKind.i64.min = -9223372036854775808 := rfl
  have e2 : IntKind.i64.max = 9223372036854775807 := rfl
  rw [if_pos ⟨by simp [Lit.wf, e, e2] at h0; omega, h1⟩]
end Go.Proofs.YtmfgkidppchobaaDoor.Pure
