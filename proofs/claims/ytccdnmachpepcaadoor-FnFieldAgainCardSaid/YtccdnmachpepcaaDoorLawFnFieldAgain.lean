/- The row of the law FnFieldAgain: its arguments are laid open as their types say; the contract of the law's function and the pure statement close it. No condition. -/
import Derived.Test.YtccdnmachpepcaaDoorRows
import Derived.Test.YtccdnmachpepcaaDoorXFnFieldAgainx2
import Derived.Test.YtccdnmachpepcaaDoorOpen
import Derived.Test.YtccdnmachpepcaaDoorQFnFieldAgain
import Derived.Test.YtccdnmachpepcaaDoorPureFnFieldAgain
import Derived.Test.YtccdnmachpepcaaDoorCards
import Derived.Test.YtccdnmachpepcaaDoorTie
import Derived.Test.YtccdnmachpepcaaDoorVarsF
import Derived.LaidMore
import Derived.Stop.Joined
import Derived.SevenTiedAt
import Derived.WalkKit
import Derived.ProofKit
import Derived.OpenShut
import Derived.ShutString
import Derived.ChangeOld
import Derived.Below
import Derived.SizedLaws
import Derived.Carry
namespace Go.Proofs.YtccdnmachpepcaaDoor.fnFieldAgain
open Go.ChangeShapes Go.WideShapes Go.ChangeAt Go.RowKit Go.Proofs.YtccdnmachpepcaaDoor Go.Proofs.YtccdnmachpepcaaDoor.Open Go.Proofs.YtccdnmachpepcaaDoor.XFnFieldAgain Go.Proofs.YtccdnmachpepcaaDoorW.PrintWords
open Go.ChangeMaps (open_string shut_string)
set_option linter.unusedVariables false
theorem own : ownKnob Tryd.prog.godebug = none := by kernel_rfl
theorem laidOut : laidOutB Tryd.prog = true := by kernel_rfl
set_option maxRecDepth 100000 in
theorem o0 : Opens Tryd.prog 9 Kd.string (fun (x : ByteArray) => x.size ≤ maxLen) := (opens_string Tryd.underlying9)
set_option maxRecDepth 100000 in
theorem lifted (os : Os) (started : os.Started) (H : Type) (enc : TypeId × Value → H) :
    ReturnsInHanded {} Tryd.checked os 4 .any (fun w args => (Rows.fnFieldAgainSpec.pre enc Tryd.prog Tryd.f4 [] false w args ∧ laidMetH Tryd.prog Rows.fnFieldAgainRow.laid w) ∧ sizedMet enc Tryd.prog Tryd.f4 (OpenSpec.ofChange Rows.fnFieldAgainSpec) false w args)
      (Rows.fnFieldAgainSpec.post enc Tryd.prog Tryd.f4 false true false false) := by
  refine returnsInHanded_of_change_and (C := Tryd.checked) (X := fun w _ => laidMetH Tryd.prog Rows.fnFieldAgainRow.laid w) (fun _ _ _ hh h => h.of_heap hh) own started (by kernel_rfl) Tryd.func4
    (ChangeSpec.witness_shaped (enc := enc) (C := Tryd.checked) (os := os) (X := fun w _ => laidMetH Tryd.prog Rows.fnFieldAgainRow.laid w) false (World.laidAll Tryd.prog os Rows.fnFieldAgainRow.laid) #[.string ByteArray.empty] 8 (World.laidAll_os _ _ _) (World.shaped_of_ZipB (by kernel_rfl) (by kernel_rfl)) (by kernel_rfl) (by kernel_rfl) (by kernel_rfl) (Vars.door_met os _)) ?_
  intro W base args ds gs before hval0 hW _ _ hL _
  have hval : ∀ (j : Nat) t v, Tryd.f4.params[j]? = some t → args[j]? = some v → Value.okWide Tryd.prog W .any base t v := hval0
  have hW' := hW
  obtain ⟨p, q, hA0, hV, rfl, hfz, hnd⟩ := hW
  have hA : DataW.TrodAll enc Tryd.prog W 0 (fun _ => true) true Tryd.f4.params.toList args.toList ds p := hA0
  rw [Tryd.params4] at hA hval
  obtain ⟨v0, vs0, d0, ds0, p0, q0, hargs, rfl, rfl, h0, r0⟩ := trodAll_cons hA
  obtain ⟨rfl, rfl, rfl⟩ := trodAll_nil r0
  obtain rfl : args = #[v0] := by cases args; simp_all
  obtain ⟨rfl, rfl⟩ := trodVars_none hV
  have lt0 : ∀ x ∈ p0, x.block < W.heap.size := by obtain ⟨m, hm⟩ := h0; exact DataW.trod_lt m _ _ _ hm
  obtain ⟨x0, hK0, hB0⟩ := open_of o0 h0
  obtain ⟨y0, rfl, rfl, rfl, w0⟩ := open_string Tryd.underlying9 (hval 0 9 v0 rfl rfl) h0
  have e_ : [Value.string y0] = [Value.string x0] := hK0
  have e0 : y0 = x0 := by simpa using e_
  subst e0
  clear e_
  obtain ⟨k, hk⟩ := Pure.FnFieldAgain y0 (by first | exact hB0 | (unfold maxLen at hB0; exact hB0))
  refine (laws_FnFieldAgain.calls k y0 true W hk).mono fun e W' ⟨he, bel⟩ => ?_
  subst he
  exact ⟨_, rfl, _, _, _, [], _, [], hW', trodAll_mk1 (shut_bool Tryd.underlying4 _), (trodAll_cons_mk (shut_string Tryd.underlying9 w0) trodAll_mk0), rfl, bel.frame _, fun h => by cases h⟩
theorem over : Rows.fnFieldAgainRow.holds Tryd.pinned (OpenSpec.ofChange Rows.fnFieldAgainSpec) :=
  OpenClaim.holds_of_wide 4 Tryd.f4 rfl rfl rfl rfl rfl rfl rfl ⟨rfl, rfl, rfl, rfl, rfl⟩ rfl rfl rfl rfl rfl (by kernel_rfl) Tryd.func4 (by kernel_rfl)
    (of_decide_eq_true (by kernel_rfl)) (by unfold Func.isWrapper; first | (rw [if_pos (by decide +kernel)]; kernel_rfl) | (rw [if_neg (by decide +kernel)]; exact ⟨rfl, rfl⟩))
    (fun os started H enc _ => lifted os started H enc)
theorem proved : Rows.FnFieldAgainCardSaid :=
  Claim7.holds_tied_plain_at .later [] [.sentinel] true (true, "cba96bd66643609353a10a1d50918209c1253ec3ffec2ab9a12659dc0c8e2637") false
    over (fun _ h => by cases h) (by kernel_rfl) (fun _ h => by cases h) fnFieldAgain_row_tie rfl ⟨rfl, rfl⟩ (by kernel_rfl) rfl
    (fun f fn hf hfn => by
      obtain rfl : f = 4 := Option.some.inj ((show Tryd.prog.funcNamed "pub-stockroom/laws.FnFieldAgain" = some 4 by kernel_rfl).symm.trans hf) |>.symm
      obtain rfl : fn = Tryd.f4 := (Option.some.inj (Tryd.func4.symm.trans hfn)).symm
      exact ⟨by kernel_rfl, fun j t ht => by
        rw [Tryd.params4] at ht
        have hm : t ∈ [9] := by simpa using Array.mem_of_getElem? ht
        have hall : ([9].all fun u => !Tryd.prog.wantsStandIn u) = true := by kernel_rfl
        exact (show Tryd.prog.wantsStandIn t = false by simpa using List.all_eq_true.1 hall t hm)⟩)
    (by kernel_rfl)
#print axioms proved
end Go.Proofs.YtccdnmachpepcaaDoor.fnFieldAgain
namespace Go.Proofs.YtccdnmachpepcaaDoor
/-- The card, under a short name, for the claim. -/
theorem fnFieldAgain_holds : Rows.FnFieldAgainCardSaid := fnFieldAgain.proved
end Go.Proofs.YtccdnmachpepcaaDoor
