/- The row of the law FnLabelEnds: its arguments are laid open as their types say; the contract of the law's function and the pure statement close it. No condition. -/
import Derived.Test.YtkhodhebhjbfpaaRows
import Derived.Test.YtkhodhebhjbfpaaLabG
import Derived.Test.YtkhodhebhjbfpaaOpen
import Derived.Test.YtkhodhebhjbfpaaQFnLabelEnds
import Derived.Test.YtkhodhebhjbfpaaPureFnLabelEnds
import Derived.WalkKit
import Derived.ProofKit
import Derived.OpenShut
import Derived.ShutString
import Derived.ChangeOld
import Derived.Below
import Derived.SizedLaws
import Derived.Carry
namespace Go.Proofs.Ytkhodhebhjbfpaa.fnLabelEnds
open Go.ChangeShapes Go.WideShapes Go.ChangeAt Go.RowKit Go.Proofs.Ytkhodhebhjbfpaa.Open Go.Proofs.Ytkhodhebhjbfpaa.LabG Go.Proofs.YtkhodhebhjbfpaaW.PrintWords Go.Proofs.Ytkhodhebhjbfpaa.XFnLabelEnds
open Go.ChangeMaps (open_string shut_string)
set_option linter.unusedVariables false
theorem own : ownKnob Try.prog.godebug = none := by kernel_rfl
theorem laidOut : laidOutB Try.prog = true := by kernel_rfl
set_option maxRecDepth 100000 in
theorem o0 : Opens Try.prog 5 (Kd.int .u8) (fun (x : Int) => (Lit.int .u8 x).wf = true) := (opens_int Try.underlying5)
set_option maxRecDepth 100000 in
theorem o1 : Opens Try.prog 22 (Kd.slice 28 k28) (fun (x : (List S28)) => (x.length ≤ maxLen ∧ ∀ (x_ : S28), x_ ∈ x → (x_.f0.size ≤ maxLen ∧ x_.f1.size ≤ maxLen))) := (opens_slice Try.underlying22 (by kernel_rfl) (opens_iso (f := fun x : S28 => (x.f0, x.f1)) (fun x => (⟨x.1, x.2⟩ : S28)) (fun _ => rfl) (opens_struct Try.underlying28 (by kernel_rfl) (part_pair (part_one 0 _ (by rfl) (by rfl) (by kernel_rfl) (opens_string Try.underlying9)) (part_one 1 _ (by rfl) (by rfl) (by kernel_rfl) (opens_string Try.underlying9))))))
set_option maxRecDepth 100000 in
theorem lifted (os : Os) (started : os.Started) (H : Type) (enc : TypeId × Value → H) :
    ReturnsInHanded {} Try.checked os 3 .any (Rows.fnLabelEndsSpec.pre6 enc Try.prog Try.f3 Rows.fnLabelEndsRow.domain false) (Rows.fnLabelEndsSpec.post enc Try.prog Try.f3 false true false false) := by
  refine returnsInHanded_of_change_sized (C := Try.checked) own started (by kernel_rfl) Try.func3
    (ChangeSpec.witness6 (enc := enc) (C := Try.checked) false ⟨#[], #[.int .u8 0, .slice none 0 0], []⟩ 8 (by kernel_rfl) (by kernel_rfl) (by kernel_rfl) (by kernel_rfl)) ?_
  intro W base args ds gs before hval0 hW hcnd hsz0 _
  have hval : ∀ (j : Nat) t v, Try.f3.params[j]? = some t → args[j]? = some v → Value.okWide Try.prog W .any base t v := hval0
  have hW' := hW
  obtain ⟨p, q, hA0, hV, rfl, hfz, hnd⟩ := hW
  have hA : DataW.TrodAll enc Try.prog W 0 (fun _ => true) true Try.f3.params.toList args.toList ds p := hA0
  rw [Try.params3] at hA hval
  obtain ⟨v0, vs0, d0, ds0, p0, q0, hargs, rfl, rfl, h0, r0⟩ := trodAll_cons hA
  obtain ⟨v1, vs1, d1, ds1, p1, q1, rfl, rfl, rfl, h1, r1⟩ := trodAll_cons r0
  obtain ⟨rfl, rfl, rfl⟩ := trodAll_nil r1
  obtain rfl : args = #[v0, v1] := by cases args; simp_all
  obtain ⟨rfl, rfl⟩ := trodVars_none hV
  have lt0 : ∀ x ∈ p0, x.block < W.heap.size := by obtain ⟨m, hm⟩ := h0; exact DataW.trod_lt m _ _ _ hm
  obtain ⟨x0, hK0, hB0⟩ := open_of o0 h0
  obtain ⟨y0, rfl, rfl, rfl, w0⟩ := open_int Try.underlying5 (hval 0 5 v0 rfl rfl) h0
  have e_ : [Value.int .u8 y0] = [Value.int .u8 x0] := hK0
  have e0 : y0 = x0 := by simpa using e_
  subst e0
  clear e_
  have lt1 : ∀ x ∈ p1, x.block < W.heap.size := by obtain ⟨m, hm⟩ := h1; exact DataW.trod_lt m _ _ _ hm
  obtain ⟨x1, hK1, hB1⟩ := open_of o1 h1
  obtain ⟨B1, n1, m1, rfl⟩ := okWide_slice Try.underlying22 (hval 1 22 v1 rfl rfl)
  obtain ⟨A1, c1, e_, hc1, hr1⟩ := hK1
  have e_ : [Value.slice B1 n1 m1] = [Value.slice A1 x1.length c1] := e_
  injection e_ with e_ _
  rw [e_] at h1
  have e1 := e_
  clear e_
  obtain hk := Pure.FnLabelEnds y0 x1 (by first | exact hB0 | (unfold maxLen at hB0; exact hB0)) (by first | exact hB1 | (unfold maxLen at hB1; exact hB1))
  rw [e1] at hW'
  rw [e1]
  refine (laws_FnLabelEnds.calls y0 A1 c1 x1 true W hr1 hc1 hk).mono fun e W' ⟨he, bel⟩ => ?_
  subst he
  exact ⟨_, rfl, _, _, _, [], _, [], hW', trodAll_mk1 (shut_bool Try.underlying4 _), (trodAll_cons_mk (shut_int Try.underlying5 w0) (trodAll_cons_mk (Below.trod laidOut (by kernel_rfl) (of_decide_eq_true (by kernel_rfl)) h1 bel lt1) trodAll_mk0)), rfl, bel.frame _, fun h => by cases h⟩
theorem over : Rows.fnLabelEndsRow.holds Try.pinned (OpenSpec.ofChange Rows.fnLabelEndsSpec) :=
  OpenClaim.holds_of_wide 3 Try.f3 rfl rfl rfl rfl rfl rfl rfl ⟨rfl, rfl, rfl, rfl, rfl⟩ rfl rfl rfl rfl rfl (by kernel_rfl) Try.func3 (by kernel_rfl)
    (of_decide_eq_true (by kernel_rfl)) (by unfold Func.isWrapper; first | (rw [if_pos (by decide +kernel)]; kernel_rfl) | (rw [if_neg (by decide +kernel)]; exact ⟨rfl, rfl⟩))
    (fun os started H enc _ => lifted os started H enc)
theorem proved : Rows.FnLabelEndsSaid := over
#print axioms proved
end Go.Proofs.Ytkhodhebhjbfpaa.fnLabelEnds
namespace Go.Proofs.Ytkhodhebhjbfpaa
/-- The row, under a short name, for the claim. -/
theorem fnLabelEnds_holds : Rows.FnLabelEndsSaid := fnLabelEnds.proved
end Go.Proofs.Ytkhodhebhjbfpaa
