/- What the row's listed variables give a walk: strconv's two errors are interface values, and stay so behind whatever leaves the first blocks alone. -/
import Derived.Test.YtjlmhfciidfjiaaDoorRows
import Derived.Lay
import Derived.LaidMore
import Derived.OpenShut
import Derived.Stop.Joined
import Derived.Stop.LaidErr
import Derived.Below
import Derived.MakeChecks
import Derived.Lib.AtoiErrMem
namespace Go.Proofs.YtjlmhfciidfjiaaDoor.Vars
open Go.RowKit

theorem gS : Tryd.prog.globalNamed "strconv.ErrSyntax" = some 0 := by kernel_rfl
theorem gR : Tryd.prog.globalNamed "strconv.ErrRange" = some 1 := by kernel_rfl
theorem tS : (Tryd.prog.globals[0]?).map (·.type) = some 40 := by kernel_rfl
theorem tR : (Tryd.prog.globals[1]?).map (·.type) = some 40 := by kernel_rfl
theorem cE : Tryd.prog.cellsOf 71 = 1 := by kernel_rfl
theorem cT : Tryd.prog.cellsOf 9 = 1 := by kernel_rfl
theorem star : "*" ++ "errors.errorString" = "*errors.errorString" := by decide
theorem rowP (u : TypeId) (h : Tryd.prog.typeName? 3 u = some "*errors.errorString") : u = 69 :=
  typeName_ptr_named (nm := "errors.errorString") (by rw [star]; kernel_rfl) (by kernel_rfl) (by decide) u (by rw [star]; exact h)

/-- An interface value, or none. -/
def IsErr (v : Value) : Prop := v = .nilIface ∨ ∃ te pe, v = .iface te pe

/-- strconv's two errors are there. -/
def Vars (w : World) : Prop := (∃ v, w.cell? ⟨0, 0, none⟩ = some v ∧ IsErr v) ∧ (∃ v, w.cell? ⟨1, 0, none⟩ = some v ∧ IsErr v)

theorem one {w w' : World} {g : Nat} (b : Below w.heap.size w w') (h : ∃ v, w.cell? ⟨g, 0, none⟩ = some v ∧ IsErr v) : ∃ v, w'.cell? ⟨g, 0, none⟩ = some v ∧ IsErr v := by
  obtain ⟨v, hc, hv⟩ := h
  have hlt : g < w.heap.size := Lib.lt_of_cell hc
  exact ⟨v, (b.cell (show (⟨g, 0, none⟩ : Addr).block < w.heap.size from hlt)).trans hc, hv⟩

theorem Vars.below {w w' : World} (h : Vars w) (b : Below w.heap.size w w') : Vars w' := ⟨one b h.1, one b h.2⟩

/-- The list of the seat's rows. -/
def laid : List (String × DataW Unit) := Rows.fnNeedNotRow.laid

theorem vars_of {w : World} (h : laidMetH Tryd.prog Rows.fnNeedNotRow.laid w) : Vars w := by
  rw [MakeChecks.laidMetH_plain _ _ _ (by kernel_rfl)] at h
  have h3 : laidMet Tryd.prog [("strconv.ErrRange", Rows.laid_strconv_ErrRange), ("strconv.ErrSyntax", Rows.laid_strconv_ErrSyntax)] w := h.tail.tail.tail
  obtain ⟨a0, s0, hv0, -, -, -⟩ := laid_sentinel h3 gR tR Tryd.underlying40 rowP Tryd.underlying69 Tryd.underlying71 rfl rfl Tryd.underlying9 cE cT
  obtain ⟨a1, s1, hv1, -, -, -⟩ := laid_sentinel h3.tail gS tS Tryd.underlying40 rowP Tryd.underlying69 Tryd.underlying71 rfl rfl Tryd.underlying9 cE cT
  exact ⟨⟨_, by have h0 := World.var?_cell gS hv1 0; simpa using h0, .inr ⟨_, _, rfl⟩⟩, ⟨_, by have h0 := World.var?_cell gR hv0 0; simpa using h0, .inr ⟨_, _, rfl⟩⟩⟩

set_option maxRecDepth 100000 in
/-- The heap in which the listed variables lie meets the condition. -/
theorem door_met (os : Os) (args : Array Value) : laidMetH Tryd.prog Rows.fnNeedNotRow.laid ((World.laidAll Tryd.prog os Rows.fnNeedNotRow.laid).forCall (fun _ _ => 0) ⟨#[], args, []⟩).memory := by
  rw [MakeChecks.laidMetH_plain _ _ _ (by kernel_rfl)]; exact laidMet_laidAll _ (by kernel_rfl) (by kernel_rfl)

end Go.Proofs.YtjlmhfciidfjiaaDoor.Vars
