/- What reads as data at a type is told by the kind of the same build: arguments of any build of numbers, bools, texts, structs and slices are laid open. -/
import Derived.Test.YtmfgkidppchobaaDoorWWords
import Derived.ChangeArms
import Derived.ChangeSlices
import Derived.OpenShut
import Derived.Lib.SmallJoins
namespace Go.Proofs.YtmfgkidppchobaaDoor.Open
open Go.RowKit Go.ChangeShapes Go.WideShapes Go.Proofs.YtmfgkidppchobaaDoorW.PrintWords
section
variable {P : Program} {α β : Type}
def Opens (P : Program) (t : TypeId) {α : Type} (d : Kd α) (B : α → Prop) : Prop :=
 ∀ (H : Type) (enc : TypeId × Value → H) (w : World) (base : Nat) (spare : Nat → Bool) (held : Bool) (n : Nat) (cs : List Value) (y : DataW H × List MemPlace),
  DataW.trod enc P w base spare held n t cs = some y → ∃ x, d.K w x cs ∧ B x
theorem opens_int {t : TypeId} {k : IntKind} (ht : P.underlying t = some (.int k)) : Opens P t (Kd.int k) (fun x => (Lit.int k x).wf = true) := by
 intro H enc w base spare held n cs y h
 obtain ⟨x, rfl, _, hw⟩ := DataW.trod_int ht h
 exact ⟨x, rfl, hw⟩
theorem open_of {H : Type} {enc : TypeId × Value → H} {w : World} {base : Nat} {spare : Nat → Bool} {held : Bool} {t : TypeId} {d : Kd α} {B : α → Prop} {v : Value} {y : DataW H} {p : List MemPlace} (ho : Opens P t d B)
  (h : DataW.Trod enc P w base spare held t v y p) : ∃ x, d.K w x v.cells.toList ∧ B x := by
 obtain ⟨n, hn⟩ := h
 exact ho H enc w base spare held n _ _ hn
end
end Go.Proofs.YtmfgkidppchobaaDoor.Open

