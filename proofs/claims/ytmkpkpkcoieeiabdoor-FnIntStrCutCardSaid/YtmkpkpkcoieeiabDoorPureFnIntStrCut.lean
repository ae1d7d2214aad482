/- The law of a value's bytes that are cut in plain words: true, whatever the value and the cut. -/
import Derived.Test.YtmkpkpkcoieeiabDoorQFnIntStrCut
namespace Go.Proofs.YtmkpkpkcoieeiabDoor.Pure
open Go Go.RowKit Go.Proofs.YtmkpkpkcoieeiabDoor.ZFnIntStrCut
theorem FnIntStrCut : QFnIntStrCut.Pure := by
  intro x c h hc
  obtain ⟨h1, h2, _⟩ := h
  simp only [Lit.wf, IntKind.min, IntKind.max, IntKind.signed, IntKind.bits, Bool.and_eq_true, decide_eq_true_eq, if_true] at h1 h2
  simp [Lit.wf, IntKind.min, IntKind.max, IntKind.signed, IntKind.bits] at hc
  unfold laws_FnIntStrCut.f
  rw [if_pos]
  unfold Bd
  omega
end Go.Proofs.YtmkpkpkcoieeiabDoor.Pure
