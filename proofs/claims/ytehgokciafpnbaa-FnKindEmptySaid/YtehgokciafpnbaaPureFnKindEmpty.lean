/- For every kind (a law that ends at once where a text is longer than 2^31 - 1 bytes): whatever is asked whether it is empty is that just if all that it has is. -/
import Derived.Test.YtehgokciafpnbaaQFnKindEmpty
namespace Go.Proofs.Ytehgokciafpnbaa.Pure
open Go.Proofs.Ytehgokciafpnbaa.LFnKindEmpty Go.Proofs.Ytehgokciafpnbaa.PFnKindEmpty

theorem FnKindEmpty : QFnKindEmpty.Pure := by
  rintro ⟨g, v, n⟩ _
  unfold laws_FnKindEmpty.f laws_zzFits8.f
  repeat' split
  all_goals rfl

end Go.Proofs.Ytehgokciafpnbaa.Pure
