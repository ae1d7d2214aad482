/- The law of a value's bytes in plain words: true, whatever the value. -/
import Derived.Test.YtmkpkpkcoieeiabDoorQFnIntStrBytes
namespace Go.Proofs.YtmkpkpkcoieeiabDoor.Pure
open Go Go.RowKit Go.Proofs.YtmkpkpkcoieeiabDoor.ZFnIntStrBytes
theorem FnIntStrBytes : QFnIntStrBytes.Pure := by
  intro x h
  obtain ⟨h1, h2, _⟩ := h
  simp only [Lit.wf, IntKind.min, IntKind.max, IntKind.signed, IntKind.bits, Bool.and_eq_true, decide_eq_true_eq, if_true] at h1 h2
  unfold laws_FnIntStrBytes.f
  rw [if_pos]
  unfold Bd
  omega
end Go.Proofs.YtmkpkpkcoieeiabDoor.Pure
