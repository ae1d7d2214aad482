/- The row of the law FnStringSetSays: its arguments are laid open as their types say; the contract of the law's function and the pure statement close it. No condition. -/
import Derived.Test.YtmipenoiodjbhaaRows
import Derived.Test.YtmipenoiodjbhaaSayLaw
import Derived.Test.YtmipenoiodjbhaaOpen
import Derived.Test.YtmipenoiodjbhaaQFnStringSetSays
import Derived.Test.YtmipenoiodjbhaaPureFnStringSetSays
import Derived.WalkKit
import Derived.ProofKit
import Derived.OpenShut
import Derived.ShutString
import Derived.ChangeOld
import Derived.Below
import Derived.SizedLaws
import Derived.Carry
namespace Go.Proofs.Ytmipenoiodjbhaa.fnStringSetSays
open Go.ChangeShapes Go.WideShapes Go.ChangeAt Go.RowKit Go.Proofs.Ytmipenoiodjbhaa.Open Go.Proofs.Ytmipenoiodjbhaa.SayLaw Go.Proofs.YtmipenoiodjbhaaW.PrintWords
open Go.ChangeMaps (open_string shut_string)
set_option linter.unusedVariables false
theorem own : ownKnob Try.prog.godebug = none := by kernel_rfl
theorem laidOut : laidOutB Try.prog = true := by kernel_rfl
theorem o0 : Opens Try.prog 5 (Kd.int .u8) (fun (x : Int) => (Lit.int .u8 x).wf = true) := (opens_int Try.underlying5)
theorem o1 : Opens Try.prog 27 (Kd.slice 9 Kd.string) (fun (x : (List ByteArray)) => (x.length ≤ maxLen ∧ ∀ (x_ : ByteArray), x_ ∈ x → x_.size ≤ maxLen)) := (opens_slice Try.underlying27 (by kernel_rfl) (opens_string Try.underlying9))
theorem o2 : Opens Try.prog 27 (Kd.slice 9 Kd.string) (fun (x : (List ByteArray)) => (x.length ≤ maxLen ∧ ∀ (x_ : ByteArray), x_ ∈ x → x_.size ≤ maxLen)) := (opens_slice Try.underlying27 (by kernel_rfl) (opens_string Try.underlying9))
theorem o3 : Opens Try.prog 27 (Kd.slice 9 Kd.string) (fun (x : (List ByteArray)) => (x.length ≤ maxLen ∧ ∀ (x_ : ByteArray), x_ ∈ x → x_.size ≤ maxLen)) := (opens_slice Try.underlying27 (by kernel_rfl) (opens_string Try.underlying9))
set_option maxRecDepth 100000 in
theorem lifted (os : Os) (started : os.Started) (H : Type) (enc : TypeId × Value → H) :
    ReturnsInHanded {} Try.checked os 5 .any (Rows.fnStringSetSaysSpec.pre6 enc Try.prog Try.f5 Rows.fnStringSetSaysRow.domain false) (Rows.fnStringSetSaysSpec.post enc Try.prog Try.f5 false true false false) := by
  refine returnsInHanded_of_change_sized (C := Try.checked) own started (by kernel_rfl) Try.func5
    (ChangeSpec.witness6 (enc := enc) (C := Try.checked) false ⟨#[], #[.int .u8 0, .slice none 0 0, .slice none 0 0, .slice none 0 0], []⟩ 8 (by kernel_rfl) (by kernel_rfl) (by kernel_rfl) (by kernel_rfl)) ?_
  intro W base args ds gs before hval0 hW hcnd hsz0 _
  have hval : ∀ (j : Nat) t v, Try.f5.params[j]? = some t → args[j]? = some v → Value.okWide Try.prog W .any base t v := hval0
  have hW' := hW
  obtain ⟨p, q, hA0, hV, rfl, hfz, hnd⟩ := hW
  have hA : DataW.TrodAll enc Try.prog W 0 (fun _ => true) true Try.f5.params.toList args.toList ds p := hA0
  rw [Try.params5] at hA hval
  obtain ⟨v0, vs0, d0, ds0, p0, q0, hargs, rfl, rfl, h0, r0⟩ := trodAll_cons hA
  obtain ⟨v1, vs1, d1, ds1, p1, q1, rfl, rfl, rfl, h1, r1⟩ := trodAll_cons r0
  obtain ⟨v2, vs2, d2, ds2, p2, q2, rfl, rfl, rfl, h2, r2⟩ := trodAll_cons r1
  obtain ⟨v3, vs3, d3, ds3, p3, q3, rfl, rfl, rfl, h3, r3⟩ := trodAll_cons r2
  obtain ⟨rfl, rfl, rfl⟩ := trodAll_nil r3
  obtain rfl : args = #[v0, v1, v2, v3] := by cases args; simp_all
  obtain ⟨rfl, rfl⟩ := trodVars_none hV
  have lt0 : ∀ x ∈ p0, x.block < W.heap.size := by obtain ⟨m, hm⟩ := h0; exact DataW.trod_lt m _ _ _ hm
  obtain ⟨x0, hK0, hB0⟩ := open_of o0 h0
  obtain ⟨y0, rfl, rfl, rfl, w0⟩ := open_int Try.underlying5 (hval 0 5 v0 rfl rfl) h0
  have e_ : [Value.int .u8 y0] = [Value.int .u8 x0] := hK0
  have e0 : y0 = x0 := by simpa using e_
  subst e0
  clear e_
  have lt1 : ∀ x ∈ p1, x.block < W.heap.size := by obtain ⟨m, hm⟩ := h1; exact DataW.trod_lt m _ _ _ hm
  obtain ⟨x1, hK1, hB1⟩ := open_of o1 h1
  obtain ⟨B1, n1, m1, rfl⟩ := okWide_slice Try.underlying27 (hval 1 27 v1 rfl rfl)
  obtain ⟨A1, c1, e_, hc1, hr1⟩ := hK1
  have e_ : [Value.slice B1 n1 m1] = [Value.slice A1 x1.length c1] := e_
  injection e_ with e_ _
  rw [e_] at h1
  have e1 := e_
  clear e_
  have lt2 : ∀ x ∈ p2, x.block < W.heap.size := by obtain ⟨m, hm⟩ := h2; exact DataW.trod_lt m _ _ _ hm
  obtain ⟨x2, hK2, hB2⟩ := open_of o2 h2
  obtain ⟨B2, n2, m2, rfl⟩ := okWide_slice Try.underlying27 (hval 2 27 v2 rfl rfl)
  obtain ⟨A2, c2, e_, hc2, hr2⟩ := hK2
  have e_ : [Value.slice B2 n2 m2] = [Value.slice A2 x2.length c2] := e_
  injection e_ with e_ _
  rw [e_] at h2
  have e2 := e_
  clear e_
  have lt3 : ∀ x ∈ p3, x.block < W.heap.size := by obtain ⟨m, hm⟩ := h3; exact DataW.trod_lt m _ _ _ hm
  obtain ⟨x3, hK3, hB3⟩ := open_of o3 h3
  obtain ⟨B3, n3, m3, rfl⟩ := okWide_slice Try.underlying27 (hval 3 27 v3 rfl rfl)
  obtain ⟨A3, c3, e_, hc3, hr3⟩ := hK3
  have e_ : [Value.slice B3 n3 m3] = [Value.slice A3 x3.length c3] := e_
  injection e_ with e_ _
  rw [e_] at h3
  have e3 := e_
  clear e_
  obtain hk := Pure.FnStringSetSays y0 x1 x2 x3 (by first | exact hB0 | (unfold maxLen at hB0; exact hB0)) (by first | exact hB1 | (unfold maxLen at hB1; exact hB1)) (by first | exact hB2 | (unfold maxLen at hB2; exact hB2)) (by first | exact hB3 | (unfold maxLen at hB3; exact hB3))
  rw [e1] at hW'
  rw [e1]
  rw [e2] at hW'
  rw [e2]
  rw [e3] at hW'
  rw [e3]
  refine (laws_FnStringSetSays.calls y0 A1 c1 x1 A2 c2 x2 A3 c3 x3 true W hr1 hc1 hr2 hc2 hr3 hc3 hk).mono fun e W' ⟨he, bel⟩ => ?_
  subst he
  exact ⟨_, rfl, _, _, _, [], _, [], hW', trodAll_mk1 (shut_bool Try.underlying4 _), (trodAll_cons_mk (shut_int Try.underlying5 w0) (trodAll_cons_mk (Below.trod laidOut (by kernel_rfl) (of_decide_eq_true (by kernel_rfl)) h1 bel lt1) (trodAll_cons_mk (Below.trod laidOut (by kernel_rfl) (of_decide_eq_true (by kernel_rfl)) h2 bel lt2) (trodAll_cons_mk (Below.trod laidOut (by kernel_rfl) (of_decide_eq_true (by kernel_rfl)) h3 bel lt3) trodAll_mk0)))), rfl, bel.frame _, fun h => by cases h⟩
theorem over : Rows.fnStringSetSaysRow.holds Try.pinned (OpenSpec.ofChange Rows.fnStringSetSaysSpec) :=
  OpenClaim.holds_of_wide 5 Try.f5 rfl rfl rfl rfl rfl rfl rfl ⟨rfl, rfl, rfl, rfl, rfl⟩ rfl rfl rfl rfl rfl (by kernel_rfl) Try.func5 (by kernel_rfl)
    (of_decide_eq_true (by kernel_rfl)) (by unfold Func.isWrapper; first | (rw [if_pos (by decide +kernel)]; kernel_rfl) | (rw [if_neg (by decide +kernel)]; exact ⟨rfl, rfl⟩))
    (fun os started H enc _ => lifted os started H enc)
theorem proved : Rows.FnStringSetSaysSaid := over
#print axioms proved
end Go.Proofs.Ytmipenoiodjbhaa.fnStringSetSays
namespace Go.Proofs.Ytmipenoiodjbhaa
/-- The row, under a short name, for the claim. -/
theorem fnStringSetSays_holds : Rows.FnStringSetSaysSaid := fnStringSetSays.proved
end Go.Proofs.Ytmipenoiodjbhaa
