/- The row of the law FnFieldExact: its arguments are laid open as their types say; the contract of the law's function and the pure statement close it. No condition. -/
import Derived.Test.YtccdnmachpepcaaDoorRows
import Derived.Test.YtccdnmachpepcaaDoorXFnFieldExactx5
import Derived.Test.YtccdnmachpepcaaDoorOpen
import Derived.Test.YtccdnmachpepcaaDoorQFnFieldExact
import Derived.Test.YtccdnmachpepcaaDoorPureFnFieldExact
import Derived.Test.YtccdnmachpepcaaDoorCards
import Derived.Test.YtccdnmachpepcaaDoorTie
import Derived.Test.YtccdnmachpepcaaDoorVarsF
import Derived.LaidMore
import Derived.Stop.Joined
import Derived.SevenTiedAt
import Derived.WalkKit
import Derived.ProofKit
import Derived.OpenShut
import Derived.ShutString
import Derived.ChangeOld
import Derived.Below
import Derived.SizedLaws
import Derived.Carry
namespace Go.Proofs.YtccdnmachpepcaaDoor.fnFieldExact
open Go.ChangeShapes Go.WideShapes Go.ChangeAt Go.RowKit Go.Proofs.YtccdnmachpepcaaDoor Go.Proofs.YtccdnmachpepcaaDoor.Open Go.Proofs.YtccdnmachpepcaaDoor.XFnFieldExact Go.Proofs.YtccdnmachpepcaaDoorW.PrintWords
open Go.ChangeMaps (open_string shut_string)
set_option linter.unusedVariables false
theorem own : ownKnob Tryd.prog.godebug = none := by kernel_rfl
theorem laidOut : laidOutB Tryd.prog = true := by kernel_rfl
set_option maxRecDepth 100000 in
theorem o0 : Opens Tryd.prog 9 Kd.string (fun (x : ByteArray) => x.size ≤ maxLen) := (opens_string Tryd.underlying9)
set_option maxRecDepth 100000 in
theorem o1 : Opens Tryd.prog 9 Kd.string (fun (x : ByteArray) => x.size ≤ maxLen) := (opens_string Tryd.underlying9)
set_option maxRecDepth 100000 in
theorem o2 : Opens Tryd.prog 22 (Kd.slice 40 k40) (fun (x : (List S40)) => (x.length ≤ maxLen ∧ ∀ (x_ : S40), x_ ∈ x → (x_.f0.size ≤ maxLen ∧ x_.f1.size ≤ maxLen))) := (opens_slice Tryd.underlying22 (by kernel_rfl) (opens_iso (f := fun x : S40 => (x.f0, x.f1)) (fun x => (⟨x.1, x.2⟩ : S40)) (fun _ => rfl) (opens_struct Tryd.underlying40 (by kernel_rfl) (part_pair (part_one 0 _ (by rfl) (by rfl) (by kernel_rfl) (opens_string Tryd.underlying9)) (part_one 1 _ (by rfl) (by rfl) (by kernel_rfl) (opens_string Tryd.underlying9))))))
set_option maxRecDepth 100000 in
theorem lifted (os : Os) (started : os.Started) (H : Type) (enc : TypeId × Value → H) :
    ReturnsInHanded {} Tryd.checked os 3 .any (fun w args => (Rows.fnFieldExactSpec.pre enc Tryd.prog Tryd.f3 [] false w args ∧ laidMetH Tryd.prog Rows.fnFieldExactRow.laid w) ∧ sizedMet enc Tryd.prog Tryd.f3 (OpenSpec.ofChange Rows.fnFieldExactSpec) false w args)
      (Rows.fnFieldExactSpec.post enc Tryd.prog Tryd.f3 false true false false) := by
  refine returnsInHanded_of_change_and (C := Tryd.checked) (X := fun w _ => laidMetH Tryd.prog Rows.fnFieldExactRow.laid w) (fun _ _ _ hh h => h.of_heap hh) own started (by kernel_rfl) Tryd.func3
    (ChangeSpec.witness_shaped (enc := enc) (C := Tryd.checked) (os := os) (X := fun w _ => laidMetH Tryd.prog Rows.fnFieldExactRow.laid w) false (World.laidAll Tryd.prog os Rows.fnFieldExactRow.laid) #[.string ByteArray.empty, .string ByteArray.empty, .slice none 0 0] 8 (World.laidAll_os _ _ _) (World.shaped_of_ZipB (by kernel_rfl) (by kernel_rfl)) (by kernel_rfl) (by kernel_rfl) (by kernel_rfl) (Vars.door_met os _)) ?_
  intro W base args ds gs before hval0 hW _ _ hL _
  have hval : ∀ (j : Nat) t v, Tryd.f3.params[j]? = some t → args[j]? = some v → Value.okWide Tryd.prog W .any base t v := hval0
  have hW' := hW
  obtain ⟨p, q, hA0, hV, rfl, hfz, hnd⟩ := hW
  have hA : DataW.TrodAll enc Tryd.prog W 0 (fun _ => true) true Tryd.f3.params.toList args.toList ds p := hA0
  rw [Tryd.params3] at hA hval
  obtain ⟨v0, vs0, d0, ds0, p0, q0, hargs, rfl, rfl, h0, r0⟩ := trodAll_cons hA
  obtain ⟨v1, vs1, d1, ds1, p1, q1, rfl, rfl, rfl, h1, r1⟩ := trodAll_cons r0
  obtain ⟨v2, vs2, d2, ds2, p2, q2, rfl, rfl, rfl, h2, r2⟩ := trodAll_cons r1
  obtain ⟨rfl, rfl, rfl⟩ := trodAll_nil r2
  obtain rfl : args = #[v0, v1, v2] := by cases args; simp_all
  obtain ⟨rfl, rfl⟩ := trodVars_none hV
  have lt0 : ∀ x ∈ p0, x.block < W.heap.size := by obtain ⟨m, hm⟩ := h0; exact DataW.trod_lt m _ _ _ hm
  obtain ⟨x0, hK0, hB0⟩ := open_of o0 h0
  obtain ⟨y0, rfl, rfl, rfl, w0⟩ := open_string Tryd.underlying9 (hval 0 9 v0 rfl rfl) h0
  have e_ : [Value.string y0] = [Value.string x0] := hK0
  have e0 : y0 = x0 := by simpa using e_
  subst e0
  clear e_
  have lt1 : ∀ x ∈ p1, x.block < W.heap.size := by obtain ⟨m, hm⟩ := h1; exact DataW.trod_lt m _ _ _ hm
  obtain ⟨x1, hK1, hB1⟩ := open_of o1 h1
  obtain ⟨y1, rfl, rfl, rfl, w1⟩ := open_string Tryd.underlying9 (hval 1 9 v1 rfl rfl) h1
  have e_ : [Value.string y1] = [Value.string x1] := hK1
  have e1 : y1 = x1 := by simpa using e_
  subst e1
  clear e_
  have lt2 : ∀ x ∈ p2, x.block < W.heap.size := by obtain ⟨m, hm⟩ := h2; exact DataW.trod_lt m _ _ _ hm
  obtain ⟨x2, hK2, hB2⟩ := open_of o2 h2
  obtain ⟨B2, n2, m2, rfl⟩ := okWide_slice Tryd.underlying22 (hval 2 22 v2 rfl rfl)
  obtain ⟨A2, c2, e_, hc2, hr2⟩ := hK2
  have e_ : [Value.slice B2 n2 m2] = [Value.slice A2 x2.length c2] := e_
  injection e_ with e_ _
  rw [e_] at h2
  have e2 := e_
  clear e_
  obtain ⟨k, hk⟩ := Pure.FnFieldExact y0 y1 x2 (by first | exact hB0 | (unfold maxLen at hB0; exact hB0)) (by first | exact hB1 | (unfold maxLen at hB1; exact hB1)) (by first | exact hB2 | (unfold maxLen at hB2; exact hB2))
  rw [e2] at hW'
  rw [e2]
  refine (laws_FnFieldExact.calls k y0 y1 A2 c2 x2 true W hr2 hc2 hk).mono fun e W' ⟨he, bel⟩ => ?_
  subst he
  exact ⟨_, rfl, _, _, _, [], _, [], hW', trodAll_mk1 (shut_bool Tryd.underlying4 _), (trodAll_cons_mk (shut_string Tryd.underlying9 w0) (trodAll_cons_mk (shut_string Tryd.underlying9 w1) (trodAll_cons_mk (Below.trod laidOut (by kernel_rfl) (of_decide_eq_true (by kernel_rfl)) h2 bel lt2) trodAll_mk0))), rfl, bel.frame _, fun h => by cases h⟩
theorem over : Rows.fnFieldExactRow.holds Tryd.pinned (OpenSpec.ofChange Rows.fnFieldExactSpec) :=
  OpenClaim.holds_of_wide 3 Tryd.f3 rfl rfl rfl rfl rfl rfl rfl ⟨rfl, rfl, rfl, rfl, rfl⟩ rfl rfl rfl rfl rfl (by kernel_rfl) Tryd.func3 (by kernel_rfl)
    (of_decide_eq_true (by kernel_rfl)) (by unfold Func.isWrapper; first | (rw [if_pos (by decide +kernel)]; kernel_rfl) | (rw [if_neg (by decide +kernel)]; exact ⟨rfl, rfl⟩))
    (fun os started H enc _ => lifted os started H enc)
theorem proved : Rows.FnFieldExactCardSaid :=
  Claim7.holds_tied_plain_at .later [] [.sentinel] true (true, "cba96bd66643609353a10a1d50918209c1253ec3ffec2ab9a12659dc0c8e2637") false
    over (fun _ h => by cases h) (by kernel_rfl) (fun _ h => by cases h) fnFieldExact_row_tie rfl ⟨rfl, rfl⟩ (by kernel_rfl) rfl
    (fun f fn hf hfn => by
      obtain rfl : f = 3 := Option.some.inj ((show Tryd.prog.funcNamed "pub-stockroom/laws.FnFieldExact" = some 3 by kernel_rfl).symm.trans hf) |>.symm
      obtain rfl : fn = Tryd.f3 := (Option.some.inj (Tryd.func3.symm.trans hfn)).symm
      exact ⟨by kernel_rfl, fun j t ht => by
        rw [Tryd.params3] at ht
        have hm : t ∈ [9, 9, 22] := by simpa using Array.mem_of_getElem? ht
        have hall : ([9, 9, 22].all fun u => !Tryd.prog.wantsStandIn u) = true := by kernel_rfl
        exact (show Tryd.prog.wantsStandIn t = false by simpa using List.all_eq_true.1 hall t hm)⟩)
    (by kernel_rfl)
#print axioms proved
end Go.Proofs.YtccdnmachpepcaaDoor.fnFieldExact
namespace Go.Proofs.YtccdnmachpepcaaDoor
/-- The card, under a short name, for the claim. -/
theorem fnFieldExact_holds : Rows.FnFieldExactCardSaid := fnFieldExact.proved
end Go.Proofs.YtccdnmachpepcaaDoor
