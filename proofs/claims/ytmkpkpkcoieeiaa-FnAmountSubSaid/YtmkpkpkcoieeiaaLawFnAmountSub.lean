/- The row of the law FnAmountSub: its arguments are laid open as their types say; the contract of the law's function and the pure statement close it. No condition. -/
import Derived.Test.YtmkpkpkcoieeiaaRows
import Derived.Test.YtmkpkpkcoieeiaaZFnAmountSubx
import Derived.Test.YtmkpkpkcoieeiaaOpen
import Derived.Test.YtmkpkpkcoieeiaaQFnAmountSub
import Derived.Test.YtmkpkpkcoieeiaaPureFnAmountSub
import Derived.WalkKit
import Derived.ProofKit
import Derived.OpenShut
import Derived.ShutString
import Derived.ChangeOld
import Derived.Below
import Derived.SizedLaws
import Derived.Carry
namespace Go.Proofs.Ytmkpkpkcoieeiaa.fnAmountSub
open Go.ChangeShapes Go.WideShapes Go.ChangeAt Go.RowKit Go.Proofs.Ytmkpkpkcoieeiaa.Open Go.Proofs.Ytmkpkpkcoieeiaa.ZFnAmountSub Go.Proofs.YtmkpkpkcoieeiaaW.PrintWords
open Go.ChangeMaps (open_string shut_string)
set_option linter.unusedVariables false
theorem own : ownKnob Try.prog.godebug = none := by kernel_rfl
theorem laidOut : laidOutB Try.prog = true := by kernel_rfl
theorem o0 : Opens Try.prog 29 (Kd.pair (Kd.int .i64) (Kd.int .i64)) (fun (x : (Int × Int)) => ((Lit.int .i64 x.1).wf = true ∧ (Lit.int .i64 x.2).wf = true)) := (opens_struct Try.underlying29 (by kernel_rfl) (part_pair (part_one 0 _ (by rfl) (by rfl) (by kernel_rfl) (opens_int Try.underlying2)) (part_one 1 _ (by rfl) (by rfl) (by kernel_rfl) (opens_int Try.underlying3))))
theorem o1 : Opens Try.prog 29 (Kd.pair (Kd.int .i64) (Kd.int .i64)) (fun (x : (Int × Int)) => ((Lit.int .i64 x.1).wf = true ∧ (Lit.int .i64 x.2).wf = true)) := (opens_struct Try.underlying29 (by kernel_rfl) (part_pair (part_one 0 _ (by rfl) (by rfl) (by kernel_rfl) (opens_int Try.underlying2)) (part_one 1 _ (by rfl) (by rfl) (by kernel_rfl) (opens_int Try.underlying3))))
set_option maxRecDepth 100000 in
theorem lifted (os : Os) (started : os.Started) (H : Type) (enc : TypeId × Value → H) :
    ReturnsInHanded {} Try.checked os 4 .any (Rows.fnAmountSubSpec.pre6 enc Try.prog Try.f4 Rows.fnAmountSubRow.domain false) (Rows.fnAmountSubSpec.post enc Try.prog Try.f4 false true false false) := by
  refine returnsInHanded_of_change_sized (C := Try.checked) own started (by kernel_rfl) Try.func4
    (ChangeSpec.witness6 (enc := enc) (C := Try.checked) false ⟨#[], #[.agg #[.int .i64 0, .int .i64 0], .agg #[.int .i64 0, .int .i64 0]], []⟩ 8 (by kernel_rfl) (by kernel_rfl) (by kernel_rfl) (by kernel_rfl)) ?_
  intro W base args ds gs before hval0 hW hcnd hsz0 _
  have hval : ∀ (j : Nat) t v, Try.f4.params[j]? = some t → args[j]? = some v → Value.okWide Try.prog W .any base t v := hval0
  have hW' := hW
  obtain ⟨p, q, hA0, hV, rfl, hfz, hnd⟩ := hW
  have hA : DataW.TrodAll enc Try.prog W 0 (fun _ => true) true Try.f4.params.toList args.toList ds p := hA0
  rw [Try.params4] at hA hval
  obtain ⟨v0, vs0, d0, ds0, p0, q0, hargs, rfl, rfl, h0, r0⟩ := trodAll_cons hA
  obtain ⟨v1, vs1, d1, ds1, p1, q1, rfl, rfl, rfl, h1, r1⟩ := trodAll_cons r0
  obtain ⟨rfl, rfl, rfl⟩ := trodAll_nil r1
  obtain rfl : args = #[v0, v1] := by cases args; simp_all
  obtain ⟨rfl, rfl⟩ := trodVars_none hV
  have lt0 : ∀ x ∈ p0, x.block < W.heap.size := by obtain ⟨m, hm⟩ := h0; exact DataW.trod_lt m _ _ _ hm
  obtain ⟨x0, hK0, hB0⟩ := open_of o0 h0
  obtain ⟨cs0, rfl, _⟩ := okWide_struct Try.underlying29 (hval 0 29 v0 rfl rfl)
  obtain ⟨_, _, e_, rfl, rfl⟩ := hK0
  have e0 := agg_cells e_
  have e0 : Value.agg cs0 = .agg #[.int .i64 x0.1, .int .i64 x0.2] := e0
  clear e_
  rw [e0] at h0
  have lt1 : ∀ x ∈ p1, x.block < W.heap.size := by obtain ⟨m, hm⟩ := h1; exact DataW.trod_lt m _ _ _ hm
  obtain ⟨x1, hK1, hB1⟩ := open_of o1 h1
  obtain ⟨cs1, rfl, _⟩ := okWide_struct Try.underlying29 (hval 1 29 v1 rfl rfl)
  obtain ⟨_, _, e_, rfl, rfl⟩ := hK1
  have e1 := agg_cells e_
  have e1 : Value.agg cs1 = .agg #[.int .i64 x1.1, .int .i64 x1.2] := e1
  clear e_
  rw [e1] at h1
  obtain ⟨k, hk⟩ := Pure.FnAmountSub x0 x1 (by first | exact hB0 | (unfold maxLen at hB0; exact hB0)) (by first | exact hB1 | (unfold maxLen at hB1; exact hB1))
  rw [e0] at hW'
  rw [e0]
  rw [e1] at hW'
  rw [e1]
  refine (laws_FnAmountSub.calls k (x0.1) (x0.2) (x1.1) (x1.2) true W hk).mono fun e W' ⟨he, bel⟩ => ?_
  subst he
  exact ⟨_, rfl, _, _, _, [], _, [], hW', trodAll_mk1 (shut_bool Try.underlying4 _), (trodAll_cons_mk (Below.trod laidOut (by kernel_rfl) (of_decide_eq_true (by kernel_rfl)) h0 bel lt0) (trodAll_cons_mk (Below.trod laidOut (by kernel_rfl) (of_decide_eq_true (by kernel_rfl)) h1 bel lt1) trodAll_mk0)), rfl, bel.frame _, fun h => by cases h⟩
theorem over : Rows.fnAmountSubRow.holds Try.pinned (OpenSpec.ofChange Rows.fnAmountSubSpec) :=
  OpenClaim.holds_of_wide 4 Try.f4 rfl rfl rfl rfl rfl rfl rfl ⟨rfl, rfl, rfl, rfl, rfl⟩ rfl rfl rfl rfl rfl (by kernel_rfl) Try.func4 (by kernel_rfl)
    (of_decide_eq_true (by kernel_rfl)) (by unfold Func.isWrapper; first | (rw [if_pos (by decide +kernel)]; kernel_rfl) | (rw [if_neg (by decide +kernel)]; exact ⟨rfl, rfl⟩))
    (fun os started H enc _ => lifted os started H enc)
theorem proved : Rows.FnAmountSubSaid := over
#print axioms proved
end Go.Proofs.Ytmkpkpkcoieeiaa.fnAmountSub
namespace Go.Proofs.Ytmkpkpkcoieeiaa
/-- The row, under a short name, for the claim. -/
theorem fnAmountSub_holds : Rows.FnAmountSubSaid := fnAmountSub.proved
end Go.Proofs.Ytmkpkpkcoieeiaa
