/- For every text the law tells true: what is a semantic version is parsed by Parse as that, what is none as a generic one, and its first two numbers are those of MajorMinor; texts of more than 2^31 - 1 bytes are let through by its guard. No condition. -/
import Derived.Test.YtmfgkidppchobaaDoorQFnVersionWays
namespace Go.Proofs.YtmfgkidppchobaaDoor.Pure
open Go.Proofs.YtmfgkidppchobaaDoor.Ver9
theorem FnVersionWays : Go.Proofs.YtmfgkidppchobaaDoor.QFnVersionWays.Pure := fun x0 h0 => by
  unfold laws_FnVersionWays.f
  rw [if_pos h0]
end Go.Proofs.YtmfgkidppchobaaDoor.Pure
