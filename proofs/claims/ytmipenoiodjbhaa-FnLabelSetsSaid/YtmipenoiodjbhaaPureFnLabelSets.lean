/- For all pairs of sets of labels the law tells true: two sets are equal just if they have the same pairs; they conflict just if a key has another value in each; merged they have all pairs, those of the second one where both have the key; sets or texts of more than 2^31 - 1 are let through by its guard. No condition. -/
import Derived.Test.YtmipenoiodjbhaaQFnLabelSets
namespace Go.Proofs.Ytmipenoiodjbhaa.Pure
open Go.Proofs.Ytmipenoiodjbhaa.LabLaw
theorem FnLabelSets : Go.Proofs.Ytmipenoiodjbhaa.QFnLabelSets.Pure := fun x0 x1 h0 h1 => by
  unfold laws_FnLabelSets.f
  rw [if_pos ⟨fun p hp => h0.2 p hp, fun p hp => h1.2 p hp⟩]
end Go.Proofs.Ytmipenoiodjbhaa.Pure
