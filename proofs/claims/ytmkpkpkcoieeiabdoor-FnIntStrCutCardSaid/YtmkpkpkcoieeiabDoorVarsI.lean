/- What the row's listed variables give a walk: io.ErrUnexpectedEOF is an error. -/
import Derived.Test.YtmkpkpkcoieeiabDoorRows
import Derived.Test.YtmkpkpkcoieeiabDoorIsF
import Derived.LaidMore
import Derived.Lay
import Derived.OpenShut
import Derived.Stop.Joined
import Derived.Stop.LaidErr
import Derived.MakeChecks
import Derived.Lib.AtoiErrMem
namespace Go.Proofs.YtmkpkpkcoieeiabDoor.Vars
open Go.RowKit
theorem gE : Tryd.prog.globalNamed "io.ErrUnexpectedEOF" = some 1 := by kernel_rfl
theorem tE : (Tryd.prog.globals[1]?).map (·.type) = some 47 := by kernel_rfl
theorem star : "*" ++ "errors.errorString" = "*errors.errorString" := by decide
def Vars (w : World) : Prop := IsU.VE w
theorem Vars.below {w w' : World} (h : Vars w) (b : Below w.heap.size w w') : Vars w' := IsF.VE.below h b
theorem cE : Tryd.prog.cellsOf 96 = 1 := by kernel_rfl
theorem cT : Tryd.prog.cellsOf 9 = 1 := by kernel_rfl
theorem rowP (u : TypeId) (h : Tryd.prog.typeName? 3 u = some "*errors.errorString") : u = 94 :=
  typeName_ptr_named (nm := "errors.errorString") (by rw [star]; kernel_rfl) (by kernel_rfl) (by decide) u (by rw [star]; exact h)
def laid : List (String × DataW Unit) := Rows.fnIntStrBytesRow.laid
theorem vars_of {w : World} (h : laidMetH Tryd.prog Rows.fnIntStrBytesRow.laid w) : Vars w := by
  rw [MakeChecks.laidMetH_plain _ _ _ (by kernel_rfl)] at h
  obtain ⟨a0, s0, hv0, -, -, -⟩ := laid_sentinel h gE tE Tryd.underlying47 rowP Tryd.underlying94 Tryd.underlying96 rfl rfl Tryd.underlying9 cE cT
  exact ⟨_, _, by have h0 := World.var?_cell gE hv0 0; simpa using h0⟩
set_option maxRecDepth 100000 in
/-- The heap in which the listed variables lie meets the condition. -/
theorem door_met (os : Os) (args : Array Value) : laidMetH Tryd.prog Rows.fnIntStrBytesRow.laid ((World.laidAll Tryd.prog os Rows.fnIntStrBytesRow.laid).forCall (fun _ _ => 0) ⟨#[], args, []⟩).memory := by
  rw [MakeChecks.laidMetH_plain _ _ _ (by kernel_rfl)]; exact laidMet_laidAll _ (by kernel_rfl) (by kernel_rfl)
end Go.Proofs.YtmkpkpkcoieeiabDoor.Vars
