/- For every key, all values and every set of labels the law tells true: of in and notin, of = and !=, of exists and !, labels match just one, no label is both above and below a number, == and = are the same, and in with one value, too; keys, rows or texts of more than 2^31 - 1 are let through by its guard. No condition. -/
import Derived.Test.YtjlmhfciidfjiaaDoorQFnNeedNot
namespace Go.Proofs.YtjlmhfciidfjiaaDoor.Pure
open Go.Proofs.YtjlmhfciidfjiaaDoor.NdL
theorem FnNeedNot : Go.Proofs.YtjlmhfciidfjiaaDoor.QFnNeedNot.Pure := fun x0 x1 x2 h0 h1 h2 => by
  unfold laws_FnNeedNot.f
  rw [if_pos ⟨h0, fun x hx => h1.2 x hx, fun p hp => h2.2 p hp⟩]
end Go.Proofs.YtjlmhfciidfjiaaDoor.Pure
