/- The row of the law FnVersionMinors: its arguments are laid open as their types say; the contract of the law's function and the pure statement close it. No condition. -/
import Derived.Test.YtmfgkidppchobaaDoorRows
import Derived.Test.YtmfgkidppchobaaDoorXFnVersionMinorsx3
import Derived.Test.YtmfgkidppchobaaDoorOpen
import Derived.Test.YtmfgkidppchobaaDoorQFnVersionMinors
import Derived.Test.YtmfgkidppchobaaDoorPureFnVersionMinors
import Derived.Test.YtmfgkidppchobaaDoorCards
import Derived.Test.YtmfgkidppchobaaDoorTie
import Derived.Test.YtmfgkidppchobaaDoorVars
import Derived.LaidMore
import Derived.Stop.Joined
import Derived.SevenTiedAt
import Derived.WalkKit
import Derived.ProofKit
import Derived.OpenShut
import Derived.ShutString
import Derived.ChangeOld
import Derived.Below
import Derived.SizedLaws
import Derived.Carry
namespace Go.Proofs.YtmfgkidppchobaaDoor.fnVersionMinors
open Go.ChangeShapes Go.WideShapes Go.ChangeAt Go.RowKit Go.Proofs.YtmfgkidppchobaaDoor Go.Proofs.YtmfgkidppchobaaDoor.Open Go.Proofs.YtmfgkidppchobaaDoor.XFnVersionMinors Go.Proofs.YtmfgkidppchobaaDoorW.PrintWords
open Go.ChangeMaps (open_string shut_string)
set_option linter.unusedVariables false
theorem own : ownKnob Tryd.prog.godebug = none := by kernel_rfl
theorem laidOut : laidOutB Tryd.prog = true := by kernel_rfl
set_option maxRecDepth 100000 in
theorem o0 : Opens Tryd.prog 36 (Kd.int .u64) (fun (x : Int) => (Lit.int .u64 x).wf = true) := (opens_int Tryd.underlying36)
set_option maxRecDepth 100000 in
theorem o1 : Opens Tryd.prog 37 (Kd.int .u32) (fun (x : Int) => (Lit.int .u32 x).wf = true) := (opens_int Tryd.underlying37)
set_option maxRecDepth 100000 in
theorem o2 : Opens Tryd.prog 37 (Kd.int .u32) (fun (x : Int) => (Lit.int .u32 x).wf = true) := (opens_int Tryd.underlying37)
set_option maxRecDepth 100000 in
theorem lifted (os : Os) (started : os.Started) (H : Type) (enc : TypeId × Value → H) :
    ReturnsInHanded {} Tryd.checked os 5 .any (fun w args => (Rows.fnVersionMinorsSpec.pre enc Tryd.prog Tryd.f5 [] false w args ∧ laidMetH Tryd.prog Rows.fnVersionMinorsRow.laid w) ∧ sizedMet enc Tryd.prog Tryd.f5 (OpenSpec.ofChange Rows.fnVersionMinorsSpec) false w args)
      (Rows.fnVersionMinorsSpec.post enc Tryd.prog Tryd.f5 false true false false) := by
  refine returnsInHanded_of_change_and (C := Tryd.checked) (X := fun w _ => laidMetH Tryd.prog Rows.fnVersionMinorsRow.laid w) (fun _ _ _ hh h => h.of_heap hh) own started (by kernel_rfl) Tryd.func5
    (ChangeSpec.witness_shaped (enc := enc) (C := Tryd.checked) (os := os) (X := fun w _ => laidMetH Tryd.prog Rows.fnVersionMinorsRow.laid w) false (World.laidAll Tryd.prog os Rows.fnVersionMinorsRow.laid) #[.int .u64 0, .int .u32 0, .int .u32 0] 8 (World.laidAll_os _ _ _) (World.shaped_of_ZipB (by kernel_rfl) (by kernel_rfl)) (by kernel_rfl) (by kernel_rfl) (by kernel_rfl) (Vars.door_met os _)) ?_
  intro W base args ds gs before hval0 hW _ _ hL _
  have hval : ∀ (j : Nat) t v, Tryd.f5.params[j]? = some t → args[j]? = some v → Value.okWide Tryd.prog W .any base t v := hval0
  have hW' := hW
  obtain ⟨p, q, hA0, hV, rfl, hfz, hnd⟩ := hW
  have hA : DataW.TrodAll enc Tryd.prog W 0 (fun _ => true) true Tryd.f5.params.toList args.toList ds p := hA0
  rw [Tryd.params5] at hA hval
  obtain ⟨v0, vs0, d0, ds0, p0, q0, hargs, rfl, rfl, h0, r0⟩ := trodAll_cons hA
  obtain ⟨v1, vs1, d1, ds1, p1, q1, rfl, rfl, rfl, h1, r1⟩ := trodAll_cons r0
  obtain ⟨v2, vs2, d2, ds2, p2, q2, rfl, rfl, rfl, h2, r2⟩ := trodAll_cons r1
  obtain ⟨rfl, rfl, rfl⟩ := trodAll_nil r2
  obtain rfl : args = #[v0, v1, v2] := by cases args; simp_all
  obtain ⟨rfl, rfl⟩ := trodVars_none hV
  have lt0 : ∀ x ∈ p0, x.block < W.heap.size := by obtain ⟨m, hm⟩ := h0; exact DataW.trod_lt m _ _ _ hm
  obtain ⟨x0, hK0, hB0⟩ := open_of o0 h0
  obtain ⟨y0, rfl, rfl, rfl, w0⟩ := open_int Tryd.underlying36 (hval 0 36 v0 rfl rfl) h0
  have e_ : [Value.int .u64 y0] = [Value.int .u64 x0] := hK0
  have e0 : y0 = x0 := by simpa using e_
  subst e0
  clear e_
  have lt1 : ∀ x ∈ p1, x.block < W.heap.size := by obtain ⟨m, hm⟩ := h1; exact DataW.trod_lt m _ _ _ hm
  obtain ⟨x1, hK1, hB1⟩ := open_of o1 h1
  obtain ⟨y1, rfl, rfl, rfl, w1⟩ := open_int Tryd.underlying37 (hval 1 37 v1 rfl rfl) h1
  have e_ : [Value.int .u32 y1] = [Value.int .u32 x1] := hK1
  have e1 : y1 = x1 := by simpa using e_
  subst e1
  clear e_
  have lt2 : ∀ x ∈ p2, x.block < W.heap.size := by obtain ⟨m, hm⟩ := h2; exact DataW.trod_lt m _ _ _ hm
  obtain ⟨x2, hK2, hB2⟩ := open_of o2 h2
  obtain ⟨y2, rfl, rfl, rfl, w2⟩ := open_int Tryd.underlying37 (hval 2 37 v2 rfl rfl) h2
  have e_ : [Value.int .u32 y2] = [Value.int .u32 x2] := hK2
  have e2 : y2 = x2 := by simpa using e_
  subst e2
  clear e_
  obtain ⟨k, hk⟩ := Pure.FnVersionMinors y0 y1 y2 (by first | exact hB0 | (unfold maxLen at hB0; exact hB0)) (by first | exact hB1 | (unfold maxLen at hB1; exact hB1)) (by first | exact hB2 | (unfold maxLen at hB2; exact hB2))
  refine (laws_FnVersionMinors.calls k y0 y1 y2 true W hk ((VT.vars_of hL))).mono fun e W' ⟨he, bel⟩ => ?_
  subst he
  exact ⟨_, rfl, _, _, _, [], _, [], hW', trodAll_mk1 (shut_bool Tryd.underlying4 _), (trodAll_cons_mk (shut_int Tryd.underlying36 w0) (trodAll_cons_mk (shut_int Tryd.underlying37 w1) (trodAll_cons_mk (shut_int Tryd.underlying37 w2) trodAll_mk0))), rfl, bel.frame _, fun h => by cases h⟩
theorem over : Rows.fnVersionMinorsRow.holds Tryd.pinned (OpenSpec.ofChange Rows.fnVersionMinorsSpec) :=
  OpenClaim.holds_of_wide 5 Tryd.f5 rfl rfl rfl rfl rfl rfl rfl ⟨rfl, rfl, rfl, rfl, rfl⟩ rfl rfl rfl rfl rfl (by kernel_rfl) Tryd.func5 (by kernel_rfl)
    (of_decide_eq_true (by kernel_rfl)) (by unfold Func.isWrapper; first | (rw [if_pos (by decide +kernel)]; kernel_rfl) | (rw [if_neg (by decide +kernel)]; exact ⟨rfl, rfl⟩))
    (fun os started H enc _ => lifted os started H enc)
theorem proved : Rows.FnVersionMinorsCardSaid :=
  Claim7.holds_tied_plain_at .later [] [.data, .data, .data, .sentinel, .sentinel, .sentinel] true (true, "490f67dacc302ad5806f6cb6f74d5db069d136238ddf65817ebc3032583ff890") true
    over (fun _ h => by cases h) (by kernel_rfl) (fun _ h => by cases h) fnVersionMinors_row_tie rfl ⟨rfl, rfl⟩ (by kernel_rfl) rfl
    (fun f fn hf hfn => by
      obtain rfl : f = 5 := Option.some.inj ((show Tryd.prog.funcNamed "pub-stockroom/laws.FnVersionMinors" = some 5 by kernel_rfl).symm.trans hf) |>.symm
      obtain rfl : fn = Tryd.f5 := (Option.some.inj (Tryd.func5.symm.trans hfn)).symm
      exact ⟨by kernel_rfl, fun j t ht => by
        rw [Tryd.params5] at ht
        have hm : t ∈ [36, 37, 37] := by simpa using Array.mem_of_getElem? ht
        have hall : ([36, 37, 37].all fun u => !Tryd.prog.wantsStandIn u) = true := by kernel_rfl
        exact (show Tryd.prog.wantsStandIn t = false by simpa using List.all_eq_true.1 hall t hm)⟩)
    (by kernel_rfl)
#print axioms proved
end Go.Proofs.YtmfgkidppchobaaDoor.fnVersionMinors
namespace Go.Proofs.YtmfgkidppchobaaDoor
/-- The card, under a short name, for the claim. -/
theorem fnVersionMinors_holds : Rows.FnVersionMinorsCardSaid := fnVersionMinors.proved
end Go.Proofs.YtmfgkidppchobaaDoor
