/- The row of the law FnAmountRounds: its arguments are laid open as their types say; the contract of the law's function and the pure statement close it. No condition. -/
import Derived.Test.YtpchihkegmihiaaRows
import Derived.Test.YtpchihkegmihiaaXFnAmountRoundsx7
import Derived.Test.YtpchihkegmihiaaOpen
import Derived.Test.YtpchihkegmihiaaQFnAmountRounds
import Derived.Test.YtpchihkegmihiaaPureFnAmountRounds
import Derived.WalkKit
import Derived.ProofKit
import Derived.OpenShut
import Derived.ShutString
import Derived.ChangeOld
import Derived.Below
import Derived.SizedLaws
import Derived.Carry
namespace Go.Proofs.Ytpchihkegmihiaa.fnAmountRounds
open Go.ChangeShapes Go.WideShapes Go.ChangeAt Go.RowKit Go.Proofs.Ytpchihkegmihiaa.Open Go.Proofs.Ytpchihkegmihiaa.XFnAmountRounds Go.Proofs.YtpchihkegmihiaaW.PrintWords
open Go.ChangeMaps (open_string shut_string)
set_option linter.unusedVariables false
theorem own : ownKnob Try.prog.godebug = none := by kernel_rfl
theorem laidOut : laidOutB Try.prog = true := by kernel_rfl
theorem o0 : Opens Try.prog 40 (Kd.pair (Kd.int .i64) (Kd.int .i64)) (fun (x : (Int × Int)) => ((Lit.int .i64 x.1).wf = true ∧ (Lit.int .i64 x.2).wf = true)) := (opens_struct Try.underlying40 (by kernel_rfl) (part_pair (part_one 0 _ (by rfl) (by rfl) (by kernel_rfl) (opens_int Try.underlying2)) (part_one 1 _ (by rfl) (by rfl) (by kernel_rfl) (opens_int Try.underlying3))))
theorem o1 : Opens Try.prog 3 (Kd.int .i64) (fun (x : Int) => (Lit.int .i64 x).wf = true) := (opens_int Try.underlying3)
set_option maxRecDepth 100000 in
theorem lifted (os : Os) (started : os.Started) (H : Type) (enc : TypeId × Value → H) :
    ReturnsInHanded {} Try.checked os 8 .any (Rows.fnAmountRoundsSpec.pre6 enc Try.prog Try.f8 Rows.fnAmountRoundsRow.domain false) (Rows.fnAmountRoundsSpec.post enc Try.prog Try.f8 false true false false) := by
  refine returnsInHanded_of_change_sized (C := Try.checked) own started (by kernel_rfl) Try.func8
    (ChangeSpec.witness6 (enc := enc) (C := Try.checked) false ⟨#[], #[.agg #[.int .i64 0, .int .i64 0], .int .i64 0], []⟩ 8 (by kernel_rfl) (by kernel_rfl) (by kernel_rfl) (by kernel_rfl)) ?_
  intro W base args ds gs before hval0 hW hcnd hsz0 _
  have hval : ∀ (j : Nat) t v, Try.f8.params[j]? = some t → args[j]? = some v → Value.okWide Try.prog W .any base t v := hval0
  have hW' := hW
  obtain ⟨p, q, hA0, hV, rfl, hfz, hnd⟩ := hW
  have hA : DataW.TrodAll enc Try.prog W 0 (fun _ => true) true Try.f8.params.toList args.toList ds p := hA0
  rw [Try.params8] at hA hval
  obtain ⟨v0, vs0, d0, ds0, p0, q0, hargs, rfl, rfl, h0, r0⟩ := trodAll_cons hA
  obtain ⟨v1, vs1, d1, ds1, p1, q1, rfl, rfl, rfl, h1, r1⟩ := trodAll_cons r0
  obtain ⟨rfl, rfl, rfl⟩ := trodAll_nil r1
  obtain rfl : args = #[v0, v1] := by cases args; simp_all
  obtain ⟨rfl, rfl⟩ := trodVars_none hV
  have lt0 : ∀ x ∈ p0, x.block < W.heap.size := by obtain ⟨m, hm⟩ := h0; exact DataW.trod_lt m _ _ _ hm
  obtain ⟨x0, hK0, hB0⟩ := open_of o0 h0
  obtain ⟨cs0, rfl, _⟩ := okWide_struct Try.underlying40 (hval 0 40 v0 rfl rfl)
  obtain ⟨_, _, e_, rfl, rfl⟩ := hK0
  have e0 := agg_cells e_
  have e0 : Value.agg cs0 = .agg #[.int .i64 x0.1, .int .i64 x0.2] := e0
  clear e_
  rw [e0] at h0
  have lt1 : ∀ x ∈ p1, x.block < W.heap.size := by obtain ⟨m, hm⟩ := h1; exact DataW.trod_lt m _ _ _ hm
  obtain ⟨x1, hK1, hB1⟩ := open_of o1 h1
  obtain ⟨y1, rfl, rfl, rfl, w1⟩ := open_int Try.underlying3 (hval 1 3 v1 rfl rfl) h1
  have e_ : [Value.int .i64 y1] = [Value.int .i64 x1] := hK1
  have e1 : y1 = x1 := by simpa using e_
  subst e1
  clear e_
  obtain ⟨k, hk⟩ := Pure.FnAmountRounds x0 y1 hB0 hB1
  rw [e0] at hW'
  rw [e0]
  refine (laws_FnAmountRounds.calls k (x0.1) (x0.2) y1 true W hk).mono fun e W' ⟨he, bel⟩ => ?_
  subst he
  exact ⟨_, rfl, _, _, _, [], _, [], hW', trodAll_mk1 (shut_bool Try.underlying4 _), (trodAll_cons_mk (Below.trod laidOut (by kernel_rfl) (of_decide_eq_true (by kernel_rfl)) h0 bel lt0) (trodAll_cons_mk (shut_int Try.underlying3 w1) trodAll_mk0)), rfl, bel.frame _, fun h => by cases h⟩
theorem over : Rows.fnAmountRoundsRow.holds Try.pinned (OpenSpec.ofChange Rows.fnAmountRoundsSpec) :=
  OpenClaim.holds_of_wide 8 Try.f8 rfl rfl rfl rfl rfl rfl rfl ⟨rfl, rfl, rfl, rfl, rfl⟩ rfl rfl rfl rfl rfl (by kernel_rfl) Try.func8 (by kernel_rfl)
    (of_decide_eq_true (by kernel_rfl)) (by unfold Func.isWrapper; first | (rw [if_pos (by decide +kernel)]; kernel_rfl) | (rw [if_neg (by decide +kernel)]; exact ⟨rfl, rfl⟩))
    (fun os started H enc _ => lifted os started H enc)
theorem proved : Rows.FnAmountRoundsSaid := over
#print axioms proved
end Go.Proofs.Ytpchihkegmihiaa.fnAmountRounds
namespace Go.Proofs.Ytpchihkegmihiaa
/-- The row, under a short name, for the claim. -/
theorem fnAmountRounds_holds : Rows.FnAmountRoundsSaid := fnAmountRounds.proved
end Go.Proofs.Ytpchihkegmihiaa
