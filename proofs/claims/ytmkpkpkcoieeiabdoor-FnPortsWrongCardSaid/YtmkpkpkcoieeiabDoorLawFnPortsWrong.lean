/- The row of the law FnPortsWrong: its arguments are laid open as their types say; the contract of the law's function and the pure statement close it. No condition. -/
import Derived.Test.YtmkpkpkcoieeiabDoorRows
import Derived.Test.YtmkpkpkcoieeiabDoorXFnPortsWrongx4
import Derived.Test.YtmkpkpkcoieeiabDoorOpen
import Derived.Test.YtmkpkpkcoieeiabDoorQFnPortsWrong
import Derived.Test.YtmkpkpkcoieeiabDoorPureFnPortsWrong
import Derived.Test.YtmkpkpkcoieeiabDoorCards
import Derived.Test.YtmkpkpkcoieeiabDoorTie
import Derived.Test.YtmkpkpkcoieeiabDoorVars
import Derived.LaidMore
import Derived.Stop.Joined
import Derived.SevenTiedAt
import Derived.WalkKit
import Derived.ProofKit
import Derived.OpenShut
import Derived.ShutString
import Derived.ChangeOld
import Derived.Below
import Derived.SizedLaws
import Derived.Carry
namespace Go.Proofs.YtmkpkpkcoieeiabDoor.fnPortsWrong
open Go.ChangeShapes Go.WideShapes Go.ChangeAt Go.RowKit Go.Proofs.YtmkpkpkcoieeiabDoor Go.Proofs.YtmkpkpkcoieeiabDoor.Open Go.Proofs.YtmkpkpkcoieeiabDoor.XFnPortsWrong Go.Proofs.YtmkpkpkcoieeiabDoorW.PrintWords
open Go.ChangeMaps (open_string shut_string)
set_option linter.unusedVariables false
theorem own : ownKnob Tryd.prog.godebug = none := by kernel_rfl
theorem laidOut : laidOutB Tryd.prog = true := by kernel_rfl
theorem o0 : Opens Tryd.prog 3 (Kd.int .i64) (fun (x : Int) => (Lit.int .i64 x).wf = true) := (opens_int Tryd.underlying3)
theorem o1 : Opens Tryd.prog 3 (Kd.int .i64) (fun (x : Int) => (Lit.int .i64 x).wf = true) := (opens_int Tryd.underlying3)
theorem o2 : Opens Tryd.prog 5 (Kd.int .u8) (fun (x : Int) => (Lit.int .u8 x).wf = true) := (opens_int Tryd.underlying5)
theorem o3 : Opens Tryd.prog 5 (Kd.int .u8) (fun (x : Int) => (Lit.int .u8 x).wf = true) := (opens_int Tryd.underlying5)
set_option maxRecDepth 100000 in
theorem lifted (os : Os) (started : os.Started) (H : Type) (enc : TypeId × Value → H) :
    ReturnsInHanded {} Tryd.checked os 4 .any (fun w args => (Rows.fnPortsWrongSpec.pre enc Tryd.prog Tryd.f4 [] false w args ∧ laidMetH Tryd.prog Rows.fnPortsWrongRow.laid w) ∧ sizedMet enc Tryd.prog Tryd.f4 (OpenSpec.ofChange Rows.fnPortsWrongSpec) false w args)
      (Rows.fnPortsWrongSpec.post enc Tryd.prog Tryd.f4 false true false false) := by
  refine returnsInHanded_of_change_and (C := Tryd.checked) (X := fun w _ => laidMetH Tryd.prog Rows.fnPortsWrongRow.laid w) (fun _ _ _ hh h => h.of_heap hh) own started (by kernel_rfl) Tryd.func4
    (ChangeSpec.witness_shaped (enc := enc) (C := Tryd.checked) (os := os) (X := fun w _ => laidMetH Tryd.prog Rows.fnPortsWrongRow.laid w) false (World.laidAll Tryd.prog os Rows.fnPortsWrongRow.laid) #[.int .i64 0, .int .i64 0, .int .u8 0, .int .u8 0] 8 (World.laidAll_os _ _ _) (World.shaped_of_ZipB (by kernel_rfl) (by kernel_rfl)) (by kernel_rfl) (by kernel_rfl) (by kernel_rfl) (Vars.door_met os _)) ?_
  intro W base args ds gs before hval0 hW _ _ hL _
  have hval : ∀ (j : Nat) t v, Tryd.f4.params[j]? = some t → args[j]? = some v → Value.okWide Tryd.prog W .any base t v := hval0
  have hW' := hW
  obtain ⟨p, q, hA0, hV, rfl, hfz, hnd⟩ := hW
  have hA : DataW.TrodAll enc Tryd.prog W 0 (fun _ => true) true Tryd.f4.params.toList args.toList ds p := hA0
  rw [Tryd.params4] at hA hval
  obtain ⟨v0, vs0, d0, ds0, p0, q0, hargs, rfl, rfl, h0, r0⟩ := trodAll_cons hA
  obtain ⟨v1, vs1, d1, ds1, p1, q1, rfl, rfl, rfl, h1, r1⟩ := trodAll_cons r0
  obtain ⟨v2, vs2, d2, ds2, p2, q2, rfl, rfl, rfl, h2, r2⟩ := trodAll_cons r1
  obtain ⟨v3, vs3, d3, ds3, p3, q3, rfl, rfl, rfl, h3, r3⟩ := trodAll_cons r2
  obtain ⟨rfl, rfl, rfl⟩ := trodAll_nil r3
  obtain rfl : args = #[v0, v1, v2, v3] := by cases args; simp_all
  obtain ⟨rfl, rfl⟩ := trodVars_none hV
  have lt0 : ∀ x ∈ p0, x.block < W.heap.size := by obtain ⟨m, hm⟩ := h0; exact DataW.trod_lt m _ _ _ hm
  obtain ⟨x0, hK0, hB0⟩ := open_of o0 h0
  obtain ⟨y0, rfl, rfl, rfl, w0⟩ := open_int Tryd.underlying3 (hval 0 3 v0 rfl rfl) h0
  have e_ : [Value.int .i64 y0] = [Value.int .i64 x0] := hK0
  have e0 : y0 = x0 := by simpa using e_
  subst e0
  clear e_
  have lt1 : ∀ x ∈ p1, x.block < W.heap.size := by obtain ⟨m, hm⟩ := h1; exact DataW.trod_lt m _ _ _ hm
  obtain ⟨x1, hK1, hB1⟩ := open_of o1 h1
  obtain ⟨y1, rfl, rfl, rfl, w1⟩ := open_int Tryd.underlying3 (hval 1 3 v1 rfl rfl) h1
  have e_ : [Value.int .i64 y1] = [Value.int .i64 x1] := hK1
  have e1 : y1 = x1 := by simpa using e_
  subst e1
  clear e_
  have lt2 : ∀ x ∈ p2, x.block < W.heap.size := by obtain ⟨m, hm⟩ := h2; exact DataW.trod_lt m _ _ _ hm
  obtain ⟨x2, hK2, hB2⟩ := open_of o2 h2
  obtain ⟨y2, rfl, rfl, rfl, w2⟩ := open_int Tryd.underlying5 (hval 2 5 v2 rfl rfl) h2
  have e_ : [Value.int .u8 y2] = [Value.int .u8 x2] := hK2
  have e2 : y2 = x2 := by simpa using e_
  subst e2
  clear e_
  have lt3 : ∀ x ∈ p3, x.block < W.heap.size := by obtain ⟨m, hm⟩ := h3; exact DataW.trod_lt m _ _ _ hm
  obtain ⟨x3, hK3, hB3⟩ := open_of o3 h3
  obtain ⟨y3, rfl, rfl, rfl, w3⟩ := open_int Tryd.underlying5 (hval 3 5 v3 rfl rfl) h3
  have e_ : [Value.int .u8 y3] = [Value.int .u8 x3] := hK3
  have e3 : y3 = x3 := by simpa using e_
  subst e3
  clear e_
  obtain ⟨k, hk⟩ := Pure.FnPortsWrong y0 y1 y2 y3 (by first | exact hB0 | (unfold maxLen at hB0; exact hB0)) (by first | exact hB1 | (unfold maxLen at hB1; exact hB1)) (by first | exact hB2 | (unfold maxLen at hB2; exact hB2)) (by first | exact hB3 | (unfold maxLen at hB3; exact hB3))
  refine (laws_FnPortsWrong.calls k y0 y1 y2 y3 true W hk ((Vars.vars_of hL))).mono fun e W' ⟨he, bel⟩ => ?_
  subst he
  exact ⟨_, rfl, _, _, _, [], _, [], hW', trodAll_mk1 (shut_bool Tryd.underlying4 _), (trodAll_cons_mk (shut_int Tryd.underlying3 w0) (trodAll_cons_mk (shut_int Tryd.underlying3 w1) (trodAll_cons_mk (shut_int Tryd.underlying5 w2) (trodAll_cons_mk (shut_int Tryd.underlying5 w3) trodAll_mk0)))), rfl, bel.frame _, fun h => by cases h⟩
theorem over : Rows.fnPortsWrongRow.holds Tryd.pinned (OpenSpec.ofChange Rows.fnPortsWrongSpec) :=
  OpenClaim.holds_of_wide 4 Tryd.f4 rfl rfl rfl rfl rfl rfl rfl ⟨rfl, rfl, rfl, rfl, rfl⟩ rfl rfl rfl rfl rfl (by kernel_rfl) Tryd.func4 (by kernel_rfl)
    (of_decide_eq_true (by kernel_rfl)) (by unfold Func.isWrapper; first | (rw [if_pos (by decide +kernel)]; kernel_rfl) | (rw [if_neg (by decide +kernel)]; exact ⟨rfl, rfl⟩))
    (fun os started H enc _ => lifted os started H enc)
theorem proved : Rows.FnPortsWrongCardSaid :=
  Claim7.holds_tied_plain_at .later [] [.data, .data, .data, .data, .sentinel, .sentinel, .pinned] true (true, "92a51dd42f682cffaab361851b2c3beccfc723e2cc8e94eb1010cf46ef0df532") true
    over (fun _ h => by cases h) (by kernel_rfl) (fun _ h => by cases h) fnPortsWrong_row_tie rfl ⟨rfl, rfl⟩ (by kernel_rfl) rfl
    (fun f fn hf hfn => by
      obtain rfl : f = 4 := Option.some.inj ((show Tryd.prog.funcNamed "pub-stockroom/laws.FnPortsWrong" = some 4 by kernel_rfl).symm.trans hf) |>.symm
      obtain rfl : fn = Tryd.f4 := (Option.some.inj (Tryd.func4.symm.trans hfn)).symm
      exact ⟨by kernel_rfl, fun j t ht => by
        rw [Tryd.params4] at ht
        have hm : t ∈ [3, 3, 5, 5] := by simpa using Array.mem_of_getElem? ht
        have hall : ([3, 3, 5, 5].all fun u => !Tryd.prog.wantsStandIn u) = true := by kernel_rfl
        exact (show Tryd.prog.wantsStandIn t = false by simpa using List.all_eq_true.1 hall t hm)⟩)
    (by kernel_rfl)
#print axioms proved
end Go.Proofs.YtmkpkpkcoieeiabDoor.fnPortsWrong
namespace Go.Proofs.YtmkpkpkcoieeiabDoor
/-- The card, under a short name, for the claim. -/
theorem fnPortsWrong_holds : Rows.FnPortsWrongCardSaid := fnPortsWrong.proved
end Go.Proofs.YtmkpkpkcoieeiabDoor
