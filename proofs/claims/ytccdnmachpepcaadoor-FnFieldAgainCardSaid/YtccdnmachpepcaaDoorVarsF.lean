/- The heap in which the row's listed variable lies meets the row's condition. -/
import Derived.Test.YtccdnmachpepcaaDoorRows
import Derived.LaidMore
import Derived.Lay
import Derived.OpenShut
import Derived.Stop.Joined
import Derived.Stop.LaidErr
import Derived.MakeChecks
namespace Go.Proofs.YtccdnmachpepcaaDoor.Vars
open Go.RowKit
set_option maxRecDepth 100000 in
/-- The heap in which the listed variables lie meets the condition. -/
theorem door_met (os : Os) (args : Array Value) : laidMetH Tryd.prog Rows.fnFieldAgainRow.laid ((World.laidAll Tryd.prog os Rows.fnFieldExactRow.laid).forCall (fun _ _ => 0) ⟨#[], args, []⟩).memory := by
  rw [MakeChecks.laidMetH_plain _ _ _ (by kernel_rfl)]; exact laidMet_laidAll _ (by kernel_rfl) (by kernel_rfl)
end Go.Proofs.YtccdnmachpepcaaDoor.Vars
