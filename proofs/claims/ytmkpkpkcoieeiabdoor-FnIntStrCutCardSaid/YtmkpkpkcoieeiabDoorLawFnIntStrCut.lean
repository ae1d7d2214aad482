/- The row of the law FnIntStrCut: its arguments are laid open as their types say; the contract of the law's function and the pure statement close it. No condition. -/
import Derived.Test.YtmkpkpkcoieeiabDoorRows
import Derived.Test.YtmkpkpkcoieeiabDoorZFnIntStrCut
import Derived.Test.YtmkpkpkcoieeiabDoorOpen
import Derived.Test.YtmkpkpkcoieeiabDoorQFnIntStrCut
import Derived.Test.YtmkpkpkcoieeiabDoorPureFnIntStrCut
import Derived.Test.YtmkpkpkcoieeiabDoorCards
import Derived.Test.YtmkpkpkcoieeiabDoorTie
import Derived.Test.YtmkpkpkcoieeiabDoorVarsI
import Derived.LaidMore
import Derived.Stop.Joined
import Derived.SevenTiedAt
import Derived.WalkKit
import Derived.ProofKit
import Derived.OpenShut
import Derived.ShutString
import Derived.ChangeOld
import Derived.Below
import Derived.SizedLaws
import Derived.Carry
namespace Go.Proofs.YtmkpkpkcoieeiabDoor.fnIntStrCut
open Go.ChangeShapes Go.WideShapes Go.ChangeAt Go.RowKit Go.Proofs.YtmkpkpkcoieeiabDoor Go.Proofs.YtmkpkpkcoieeiabDoor.Open Go.Proofs.YtmkpkpkcoieeiabDoor.ZFnIntStrCut Go.Proofs.YtmkpkpkcoieeiabDoorW.PrintWords
open Go.ChangeMaps (open_string shut_string)
set_option linter.unusedVariables false
theorem own : ownKnob Tryd.prog.godebug = none := by kernel_rfl
theorem laidOut : laidOutB Tryd.prog = true := by kernel_rfl
set_option maxRecDepth 100000 in
theorem o0 : Opens Tryd.prog 34 (Kd.pair (Kd.int .i64) (Kd.pair (Kd.int .i32) Kd.string)) (fun (x : (Int × Int × ByteArray)) => ((Lit.int .i64 x.1).wf = true ∧ ((Lit.int .i32 x.2.1).wf = true ∧ x.2.2.size ≤ maxLen))) := (opens_struct Tryd.underlying34 (by kernel_rfl) (part_pair (part_one 0 _ (by rfl) (by rfl) (by kernel_rfl) (opens_int Tryd.underlying2)) (part_pair (part_one 1 _ (by rfl) (by rfl) (by kernel_rfl) (opens_int Tryd.underlying21)) (part_one 2 _ (by rfl) (by rfl) (by kernel_rfl) (opens_string Tryd.underlying9)))))
set_option maxRecDepth 100000 in
theorem o1 : Opens Tryd.prog 5 (Kd.int .u8) (fun (x : Int) => (Lit.int .u8 x).wf = true) := (opens_int Tryd.underlying5)
set_option maxRecDepth 100000 in
theorem lifted (os : Os) (started : os.Started) (H : Type) (enc : TypeId × Value → H) :
    ReturnsInHanded {} Tryd.checked os 7 .any (fun w args => (Rows.fnIntStrCutSpec.pre enc Tryd.prog Tryd.f7 [] false w args ∧ laidMetH Tryd.prog Rows.fnIntStrCutRow.laid w) ∧ sizedMet enc Tryd.prog Tryd.f7 (OpenSpec.ofChange Rows.fnIntStrCutSpec) false w args)
      (Rows.fnIntStrCutSpec.post enc Tryd.prog Tryd.f7 false true false false) := by
  refine returnsInHanded_of_change_and (C := Tryd.checked) (X := fun w _ => laidMetH Tryd.prog Rows.fnIntStrCutRow.laid w) (fun _ _ _ hh h => h.of_heap hh) own started (by kernel_rfl) Tryd.func7
    (ChangeSpec.witness_shaped (enc := enc) (C := Tryd.checked) (os := os) (X := fun w _ => laidMetH Tryd.prog Rows.fnIntStrCutRow.laid w) false (World.laidAll Tryd.prog os Rows.fnIntStrCutRow.laid) #[.agg #[.int .i64 0, .int .i32 0, .string ByteArray.empty], .int .u8 0] 8 (World.laidAll_os _ _ _) (World.shaped_of_ZipB (by kernel_rfl) (by kernel_rfl)) (by kernel_rfl) (by kernel_rfl) (by kernel_rfl) (Vars.door_met os _)) ?_
  intro W base args ds gs before hval0 hW _ _ hL _
  have hval : ∀ (j : Nat) t v, Tryd.f7.params[j]? = some t → args[j]? = some v → Value.okWide Tryd.prog W .any base t v := hval0
  have hW' := hW
  obtain ⟨p, q, hA0, hV, rfl, hfz, hnd⟩ := hW
  have hA : DataW.TrodAll enc Tryd.prog W 0 (fun _ => true) true Tryd.f7.params.toList args.toList ds p := hA0
  rw [Tryd.params7] at hA hval
  obtain ⟨v0, vs0, d0, ds0, p0, q0, hargs, rfl, rfl, h0, r0⟩ := trodAll_cons hA
  obtain ⟨v1, vs1, d1, ds1, p1, q1, rfl, rfl, rfl, h1, r1⟩ := trodAll_cons r0
  obtain ⟨rfl, rfl, rfl⟩ := trodAll_nil r1
  obtain rfl : args = #[v0, v1] := by cases args; simp_all
  obtain ⟨rfl, rfl⟩ := trodVars_none hV
  have lt0 : ∀ x ∈ p0, x.block < W.heap.size := by obtain ⟨m, hm⟩ := h0; exact DataW.trod_lt m _ _ _ hm
  obtain ⟨x0, hK0, hB0⟩ := open_of o0 h0
  obtain ⟨cs0, rfl, _⟩ := okWide_struct Tryd.underlying34 (hval 0 34 v0 rfl rfl)
  obtain ⟨_, _, e_, rfl, ⟨_, _, rfl, rfl, rfl⟩⟩ := hK0
  have e0 := agg_cells e_
  have e0 : Value.agg cs0 = .agg #[.int .i64 x0.1, .int .i32 x0.2.1, .string x0.2.2] := e0
  clear e_
  rw [e0] at h0
  have lt1 : ∀ x ∈ p1, x.block < W.heap.size := by obtain ⟨m, hm⟩ := h1; exact DataW.trod_lt m _ _ _ hm
  obtain ⟨x1, hK1, hB1⟩ := open_of o1 h1
  obtain ⟨y1, rfl, rfl, rfl, w1⟩ := open_int Tryd.underlying5 (hval 1 5 v1 rfl rfl) h1
  have e_ : [Value.int .u8 y1] = [Value.int .u8 x1] := hK1
  have e1 : y1 = x1 := by simpa using e_
  subst e1
  clear e_
  obtain hk := Pure.FnIntStrCut x0 y1 (by first | exact hB0 | (unfold maxLen at hB0; exact hB0)) (by first | exact hB1 | (unfold maxLen at hB1; exact hB1))
  rw [e0] at hW'
  rw [e0]
  refine (laws_FnIntStrCut.calls (x0.1) (x0.2.1) (x0.2.2) y1 true W hk ((Vars.vars_of hL))).mono fun e W' ⟨he, bel⟩ => ?_
  subst he
  exact ⟨_, rfl, _, _, _, [], _, [], hW', trodAll_mk1 (shut_bool Tryd.underlying4 _), (trodAll_cons_mk (Below.trod laidOut (by kernel_rfl) (of_decide_eq_true (by kernel_rfl)) h0 bel lt0) (trodAll_cons_mk (shut_int Tryd.underlying5 w1) trodAll_mk0)), rfl, bel.frame _, fun h => by cases h⟩
theorem over : Rows.fnIntStrCutRow.holds Tryd.pinned (OpenSpec.ofChange Rows.fnIntStrCutSpec) :=
  OpenClaim.holds_of_wide 7 Tryd.f7 rfl rfl rfl rfl rfl rfl rfl ⟨rfl, rfl, rfl, rfl, rfl⟩ rfl rfl rfl rfl rfl (by kernel_rfl) Tryd.func7 (by kernel_rfl)
    (of_decide_eq_true (by kernel_rfl)) (by unfold Func.isWrapper; first | (rw [if_pos (by decide +kernel)]; kernel_rfl) | (rw [if_neg (by decide +kernel)]; exact ⟨rfl, rfl⟩))
    (fun os started H enc _ => lifted os started H enc)
theorem proved : Rows.FnIntStrCutCardSaid :=
  Claim7.holds_tied_plain_at .later [] [.sentinel, .sentinel, .sentinel, .sentinel] true (true, "92a51dd42f682cffaab361851b2c3beccfc723e2cc8e94eb1010cf46ef0df532") true
    over (fun _ h => by cases h) (by kernel_rfl) (fun _ h => by cases h) fnIntStrCut_row_tie rfl ⟨rfl, rfl⟩ (by kernel_rfl) rfl
    (fun f fn hf hfn => by
      obtain rfl : f = 7 := Option.some.inj ((show Tryd.prog.funcNamed "pub-stockroom/laws.FnIntStrCut" = some 7 by kernel_rfl).symm.trans hf) |>.symm
      obtain rfl : fn = Tryd.f7 := (Option.some.inj (Tryd.func7.symm.trans hfn)).symm
      exact ⟨by kernel_rfl, fun j t ht => by
        rw [Tryd.params7] at ht
        have hm : t ∈ [34, 5] := by simpa using Array.mem_of_getElem? ht
        have hall : ([34, 5].all fun u => !Tryd.prog.wantsStandIn u) = true := by kernel_rfl
        exact (show Tryd.prog.wantsStandIn t = false by simpa using List.all_eq_true.1 hall t hm)⟩)
    (by kernel_rfl)
#print axioms proved
end Go.Proofs.YtmkpkpkcoieeiabDoor.fnIntStrCut
namespace Go.Proofs.YtmkpkpkcoieeiabDoor
/-- The card, under a short name, for the claim. -/
theorem fnIntStrCut_holds : Rows.FnIntStrCutCardSaid := fnIntStrCut.proved
end Go.Proofs.YtmkpkpkcoieeiabDoor
