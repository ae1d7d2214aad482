/- A text of this session: the functions of the law FnVersionCompare, by a program that calls the kit's print and lays this session's own contracts of single functions beside. -/
import Derived.Test.YtmfgkidppchobaaDoorXFnVersionComparex0
import Derived.Test.YtmfgkidppchobaaDoorXFnVersionComparex1
import Derived.Test.YtmfgkidppchobaaDoorXFnVersionComparex2
namespace Go.Proofs.YtmfgkidppchobaaDoor.XFnVersionCompare
open Go.RowKit Go.Proofs.YtmfgkidppchobaaDoorW.PrintWords Go.Proofs.YtmfgkidppchobaaDoorW.PrintLast Go.Proofs.YtmfgkidppchobaaDoorW.PrintMore
attribute [local go_sem] max2_int min2_int max_two min_two max_three min_three max_four min_four
set_option linter.unusedVariables false
set_option linter.unusedSimpArgs false
mutual
def spec_VerGeneric.j0 : Nat → List ByteArray → Bool → Bool → ByteArray → ByteArray → Option (List Int × Bool × ByteArray × ByteArray × Bool × Bool)
 | 0, _, _, _, _, _ => none
 | k + 1, x5, x29, x155001, x155002, x155003 => if x29 = true then (some (([] : List Int), false, (⟨#[]⟩ : ByteArray), (⟨#[]⟩ : ByteArray), false, true)) else (spec_VerGeneric.l0 k x5 0 ([] : List Int) x155001 x155002 x155003)
def spec_VerGeneric.l0 : Nat → List ByteArray → Int → List Int → Bool → ByteArray → ByteArray → Option (List Int × Bool × ByteArray × ByteArray × Bool × Bool)
 | 0, _, _, _, _, _, _ => none
 | k + 1, x5, x7, x155000, x155001, x155002, x155003 => if x7 < (x5.length : Int) then (if 0 ≤ x7 then ((spec_VerUint.f k (rdOf ByteArray.empty x5 x7)).bind fun bt164 => (if bt164.2 = true then (if x155000.length < 17592186044416 then (spec_VerGeneric.l0 k x5 (wrap64 (x7 + 1)) (x155000 ++ [bt164.1]) x155001 x155002 x155003) else (none)) else (some (([] : List Int), false, (⟨#[]⟩ : ByteArray), (⟨#[]⟩ : ByteArray), false, true)))) else (none)) else (some (x155000, x155001, x155002, x155003, true, true))
end
def spec_VerGeneric.f (k : Nat) (a0 : ByteArray) : Option (List Int × Bool × ByteArray × ByteArray × Bool × Bool) := (spec_verAhead.f k a0).bind fun t155 => ((spec_verFields.f k t155).bind fun bt156 => ((spec_verPlace.f k bt156.2 10).bind fun t160 => (if t160 ≥ 0 then (some (([] : List Int), false, (⟨#[]⟩ : ByteArray), (⟨#[]⟩ : ByteArray), false, false)) else (if (bt156.1.length : Int) < 2 then (spec_VerGeneric.j0 k bt156.1 true false (⟨#[]⟩ : ByteArray) (⟨#[]⟩ : ByteArray)) else (if 0 < (bt156.1.length : Int) then ((spec_VerPlainly.f (rdOf ByteArray.empty bt156.1 0)).bind fun t162 => (spec_VerGeneric.j0 k bt156.1 (!t162) false (⟨#[]⟩ : ByteArray) (⟨#[]⟩ : ByteArray))) else (none))))))
set_option maxHeartbeats 8000000 in
set_option maxRecDepth 100000 in
theorem spec_VerGeneric.calls (k : Nat) (a0 : ByteArray) (r1 : List Int) (r2 : Bool) (r3 : ByteArray) (r4 : ByteArray) (r5 : Bool) (r6 : Bool) (w : World) (h : spec_VerGeneric.f k a0 = some (r1, r2, r3, r4, r5, r6)) :
  Calls Tryd.prog 26 #[.string a0] w fun e w' => ∃ v0_ : Value, e = .returned (.tuple #[.agg #[v0_, .bool r2, .string r3, .string r4], .bool r5, .bool r6]) ∧ Kd.R (Kd.int .u64) 36 w' w.heap.size (fun _ => True) v0_ r1 ∧ Below w.heap.size w w' := by
 have hu25 := Tryd.underlying25
 have HB := Aside0.mk (Below.refl w.heap.size w)
 have H : ((spec_verAhead.f k a0).bind fun t155 => ((spec_verFields.f k t155).bind fun bt156 => ((spec_verPlace.f k bt156.2 10).bind fun t160 => (if t160 ≥ 0 then (some (([] : List Int), false, (⟨#[]⟩ : ByteArray), (⟨#[]⟩ : ByteArray), false, false)) else (if (bt156.1.length : Int) < 2 then (spec_VerGeneric.j0 k bt156.1 true false (⟨#[]⟩ : ByteArray) (⟨#[]⟩ : ByteArray)) else (if 0 < (bt156.1.length : Int) then ((spec_VerPlainly.f (rdOf ByteArray.empty bt156.1 0)).bind fun t162 => (spec_VerGeneric.j0 k bt156.1 (!t162) false (⟨#[]⟩ : ByteArray) (⟨#[]⟩ : ByteArray))) else (none))))))) = some (r1, r2, r3, r4, r5, r6) := h
 clear h
 replace H := Option.bind_eq_some_iff.mp H
 obtain ⟨t155, A20, H⟩ := H
 replace H : ((spec_verFields.f k t155).bind fun bt156 => ((spec_verPlace.f k bt156.2 10).bind fun t160 => (if t160 ≥ 0 then (some (([] : List Int), false, (⟨#[]⟩ : ByteArray), (⟨#[]⟩ : ByteArray), false, false)) else (if (bt156.1.length : Int) < 2 then (spec_VerGeneric.j0 k bt156.1 true false (⟨#[]⟩ : ByteArray) (⟨#[]⟩ : ByteArray)) else (if 0 < (bt156.1.length : Int) then ((spec_VerPlainly.f (rdOf ByteArray.empty bt156.1 0)).bind fun t162 => (spec_VerGeneric.j0 k bt156.1 (!t162) false (⟨#[]⟩ : ByteArray) (⟨#[]⟩ : ByteArray))) else (none)))))) = some (r1, r2, r3, r4, r5, r6) := H
 have A2 := Aside0.mk A20
 clear A20
 replace H := Option.bind_eq_some_iff.mp H
 obtain ⟨⟨t156, t157⟩, A30, H⟩ := H
 replace H : ((spec_verPlace.f k t157 10).bind fun t160 => (if t160 ≥ 0 then (some (([] : List Int), false, (⟨#[]⟩ : ByteArray), (⟨#[]⟩ : ByteArray), false, false)) else (if (t156.length : Int) < 2 then (spec_VerGeneric.j0 k t156 true false (⟨#[]⟩ : ByteArray) (⟨#[]⟩ : ByteArray)) else (if 0 < (t156.length : Int) then ((spec_VerPlainly.f (rdOf ByteArray.empty t156 0)).bind fun t162 => (spec_VerGeneric.j0 k t156 (!t162) false (⟨#[]⟩ : ByteArray) (⟨#[]⟩ : ByteArray))) else (none))))) = some (r1, r2, r3, r4, r5, r6) := H
 have A3 := Aside0.mk A30
 clear A30
 replace H := Option.bind_eq_some_iff.mp H
 obtain ⟨t160, A40, H⟩ := H
 replace H : (if t160 ≥ 0 then (some (([] : List Int), false, (⟨#[]⟩ : ByteArray), (⟨#[]⟩ : ByteArray), false, false)) else (if (t156.length : Int) < 2 then (spec_VerGeneric.j0 k t156 true false (⟨#[]⟩ : ByteArray) (⟨#[]⟩ : ByteArray)) else (if 0 < (t156.length : Int) then ((spec_VerPlainly.f (rdOf ByteArray.empty t156 0)).bind fun t162 => (spec_VerGeneric.j0 k t156 (!t162) false (⟨#[]⟩ : ByteArray) (⟨#[]⟩ : ByteArray))) else (none)))) = some (r1, r2, r3, r4, r5, r6) := H
 have A4 := Aside0.mk A40
 clear A40
 by_cases c5 : t160 ≥ 0
 ·rw [if_pos c5] at H
  have c5b0 : decide (0 ≤ t160) = true := decide_eq_true c5
  clear c5
  simp only [Option.some.injEq, Prod.mk.injEq] at H
  obtain ⟨rfl, rfl, rfl, rfl, rfl, rfl⟩ := H
  go_enter Tryd.func26, Tryd.ntmps26
  go_wp2_with (first | ((with_reducible refine gate_dst (N := 2) rfl ?_); refine box_event ?hg (N := 2) ?hd (cs := #[.slice none 0 0, .bool false, .string (⟨#[]⟩ : ByteArray), .string (⟨#[]⟩ : ByteArray)]) (t := 25) ?hr ?_; (case hd => rfl); (case hg => rfl); (case hr => first | (go_simp; done) | (go_simp; rfl)); intro gb154 hg w6 hbox hb; have n0_ := Aside0.mk (below_step (by repeat (first | (with_reducible first | exact HB.out | apply below_alloc | apply pw_below_drewN | apply below_drew1) | exact HB.out)) hb); have n1_ := Aside0.mk (hbox); have n2_ := Aside0.mk ((by rw [hg]; exact (below_size (by repeat (first | (with_reducible first | exact HB.out | apply below_alloc | apply pw_below_drewN | apply below_drew1) | exact HB.out))) : w.heap.size ≤ gb154)); have n3_ := Aside0.mk ((by rw [hg]; exact (below_size (by repeat (first | (with_reducible first | exact HB.out | apply below_alloc | apply pw_below_drewN | apply below_drew1) | exact HB.out))) : w.heap.size ≤ gb154)); clear HB; have HB := n0_; have BK154 := n1_; have GW154 := n2_; have GE154 := n3_; clear n0_ n1_ n2_ n3_; clear hb hbox hg) | ((with_reducible refine gate_callee (f := 22) rfl ?_); refine goesL_ (some 12) rfl rfl Tryd.func22 (by kernel_rfl) rfl #[.string a0] rfl (by (try simp only [List.map_toArray, List.map_cons, List.map_nil]); first | done | rfl | (simp only [List.length_drop, List.length_take]; rfl)) ?_; (with_reducible refine (spec_verAhead.calls k a0 t155 _ A2.out).mono ?_); rintro e w' ⟨rfl, ⟨nd, rfl⟩⟩; refine ⟨_, rfl, ?_⟩; (try (rw [drewN_self w6]; generalize hq_ : World.drewN w6 _ = w6; have n0_ : Aside0 (w6.heap[gb154]? = some (.cells #[.slice none 0 0, .bool false, .string (⟨#[]⟩ : ByteArray), .string (⟨#[]⟩ : ByteArray)] 25 (0, 0))) := ⟨by rw [← hq_]; exact (by (with_reducible repeat (first | refine blk_drewN ?_ _ | refine blk_drew ?_ | refine blk_alloc ?_ _)); exact BK154.out)⟩; have n1_ : Aside0 (Below w.heap.size w w6) := ⟨by rw [← hq_]; exact (by repeat (first | (with_reducible first | exact HB.out | apply below_alloc | apply pw_below_drewN | apply below_drew1 | refine below_set ?_ GE154.out) | exact HB.out))⟩; clear BK154 HB hq_; have BK154 := n0_; have HB := n1_; clear n0_ n1_))) | ((with_reducible refine gate_callee (f := 21) rfl ?_); refine goesL_ (some 13) rfl rfl Tryd.func21 (by kernel_rfl) rfl #[.string t155] rfl (by (try simp only [List.map_toArray, List.map_cons, List.map_nil]); first | done | rfl | (simp only [List.length_drop, List.length_take]; rfl)) ?_; (with_reducible refine (spec_verFields.calls k t155 t156 t157 _ A3.out).mono ?_); rintro e w7 ⟨v158, rfl, ho0, hb⟩; refine ⟨_, rfl, ?_⟩; have n0_ := Aside0.mk (Kd.R_lower ho0 (below_size (by repeat (first | (with_reducible first | exact HB.out | apply below_alloc | apply pw_below_drewN | apply below_drew1 | refine below_set ?_ GE154.out) | exact HB.out)))); have n1_ := Aside0.mk (blk_below (g := gb154) (o := .cells #[.slice none 0 0, .bool false, .string (⟨#[]⟩ : ByteArray), .string (⟨#[]⟩ : ByteArray)] 25 (0, 0)) (by (with_reducible repeat (first | refine blk_drewN ?_ _ | refine blk_drew ?_ | refine blk_alloc ?_ _)); exact BK154.out) hb); have n2_ := Aside0.mk (below_step (by repeat (first | (with_reducible first | exact HB.out | apply below_alloc | apply pw_below_drewN | apply below_drew1 | refine below_set ?_ GE154.out) | exact HB.out)) hb); clear BK154; clear HB; have HO159 := n0_; have BK154 := n1_; have HB := n2_; clear n0_ n1_ n2_; (try clear hb); (try clear hb2); (try clear hk); (try clear hi); (try clear ho0)) | ((with_reducible refine gate_callee (f := 23) rfl ?_); refine goesL_ (some 17) rfl rfl Tryd.func23 (by kernel_rfl) rfl #[.string t157, .int .u8 10] rfl (by (try simp only [List.map_toArray, List.map_cons, List.map_nil]); first | done | rfl | (simp only [List.length_drop, List.length_take]; rfl)) ?_; (with_reducible refine (spec_verPlace.calls k t157 10 t160 _ A4.out).mono ?_); rintro e w' ⟨rfl, ⟨nd, rfl⟩⟩; refine ⟨_, rfl, ?_⟩; (try (rw [drewN_self w7]; generalize hq_ : World.drewN w7 _ = w7; have n0_ : Aside0 (Kd.R Kd.string 9 w7 w.heap.size (fun _ => True) v158 t156) := ⟨by rw [← hq_]; exact (by (with_reducible repeat (first | apply Kd.R_alloc | apply Kd.R_drewN | apply Kd.R_drew)); exact HO159.out)⟩; have n1_ : Aside0 (w7.heap[gb154]? = some (.cells #[.slice none 0 0, .bool false, .string (⟨#[]⟩ : ByteArray), .string (⟨#[]⟩ : ByteArray)] 25 (0, 0))) := ⟨by rw [← hq_]; exact (by (with_reducible repeat (first | refine blk_drewN ?_ _ | refine blk_drew ?_ | refine blk_alloc ?_ _)); exact BK154.out)⟩; have n2_ : Aside0 (Below w.heap.size w w7) := ⟨by rw [← hq_]; exact (by repeat (first | (with_reducible first | exact HB.out | apply below_alloc | apply pw_below_drewN | apply below_drew1 | refine below_set ?_ GE154.out) | exact HB.out))⟩; clear HO159 BK154 HB hq_; have HO159 := n0_; have BK154 := n1_; have HB := n2_; clear n0_ n1_ n2_)); have hcz8_0 : w7.cell? ⟨gb154, 0, none⟩ = some (.slice none 0 0) := (blk_cell BK154.out 0).trans rfl; have hcz8_1 : w7.cell? ⟨gb154, 1, none⟩ = some (.bool false) := (blk_cell BK154.out 1).trans rfl; have hcz8_2 : w7.cell? ⟨gb154, 2, none⟩ = some (.string (⟨#[]⟩ : ByteArray)) := (blk_cell BK154.out 2).trans rfl; have hcz8_3 : w7.cell? ⟨gb154, 3, none⟩ = some (.string (⟨#[]⟩ : ByteArray)) := (blk_cell BK154.out 3).trans rfl; have hfz8_0 := blk_frozen BK154.out 0; have hfz8_1 := blk_frozen BK154.out 1; have hfz8_2 := blk_frozen BK154.out 2; have hfz8_3 := blk_frozen BK154.out 3))
  refine bodyPost_ret (results_ctt rfl _ _ gb154 25 #[.slice none 0 0, .bool false, .string (⟨#[]⟩ : ByteArray), .string (⟨#[]⟩ : ByteArray)] (0, 0) _ rfl (by (with_reducible repeat (first | refine blk_drewN ?_ _ | refine blk_drew ?_ | refine blk_alloc ?_ _)); refine blk_put (cs := #[.slice none 0 0, .bool false, .string (⟨#[]⟩ : ByteArray), .string (⟨#[]⟩ : ByteArray)]) ?_ 3 _ rfl; (with_reducible repeat (first | refine blk_drewN ?_ _ | refine blk_drew ?_ | refine blk_alloc ?_ _)); refine blk_put (cs := #[.slice none 0 0, .bool false, .string (⟨#[]⟩ : ByteArray), .string (⟨#[]⟩ : ByteArray)]) ?_ 2 _ rfl; (with_reducible repeat (first | refine blk_drewN ?_ _ | refine blk_drew ?_ | refine blk_alloc ?_ _)); refine blk_put (cs := #[.slice none 0 0, .bool false, .string (⟨#[]⟩ : ByteArray), .string (⟨#[]⟩ : ByteArray)]) ?_ 1 _ rfl; (with_reducible repeat (first | refine blk_drewN ?_ _ | refine blk_drew ?_ | refine blk_alloc ?_ _)); refine blk_put (cs := #[.slice none 0 0, .bool false, .string (⟨#[]⟩ : ByteArray), .string (⟨#[]⟩ : ByteArray)]) ?_ 0 _ rfl; (with_reducible repeat (first | refine blk_drewN ?_ _ | refine blk_drew ?_ | refine blk_alloc ?_ _)); exact BK154.out) Tryd.underlying25 rfl (by kernel_rfl)) rfl ?_
  exact ⟨_, by first | rfl | (simp [errW_none, errW_some] <;> rfl) | (simp [*, errW_none, errW_some] <;> rfl), by first | exact Kd.R_nil _ _ _ _ _ | exact Kd.N_nil _ _ _ _ _ | exact Kd.V_nil _ _ _ _ _ | exact Kd.Q_nil _ _ _ _ _ | exact Kd.S_nil _ _ _ _ _, by repeat (first | (with_reducible first | exact HB.out | apply below_alloc | apply pw_below_drewN | apply below_drew1 | refine below_set ?_ GE154.out) | exact HB.out)⟩
 ·rw [if_neg c5] at H
  have c5b0 : decide (0 ≤ t160) = false := decide_eq_false c5
  clear c5
  have HC9 := Aside0.mk H
  clear H
  go_enter Tryd.func26, Tryd.ntmps26
  go_upto_region 4 with (first | ((with_reducible refine gate_dst (N := 2) rfl ?_); refine box_event ?hg (N := 2) ?hd (cs := #[.slice none 0 0, .bool false, .string (⟨#[]⟩ : ByteArray), .string (⟨#[]⟩ : ByteArray)]) (t := 25) ?hr ?_; (case hd => rfl); (case hg => rfl); (case hr => first | (go_simp; done) | (go_simp; rfl)); intro gb154 hg w10 hbox hb; have n0_ := Aside0.mk (below_step (by repeat (first | (with_reducible first | exact HB.out | apply below_alloc | apply pw_below_drewN | apply below_drew1) | exact HB.out)) hb); have n1_ := Aside0.mk (hbox); have n2_ := Aside0.mk ((by rw [hg]; exact (below_size (by repeat (first | (with_reducible first | exact HB.out | apply below_alloc | apply pw_below_drewN | apply below_drew1) | exact HB.out))) : w.heap.size ≤ gb154)); have n3_ := Aside0.mk ((by rw [hg]; exact (below_size (by repeat (first | (with_reducible first | exact HB.out | apply below_alloc | apply pw_below_drewN | apply below_drew1) | exact HB.out))) : w.heap.size ≤ gb154)); clear HB; have HB := n0_; have BK154 := n1_; have GW154 := n2_; have GE154 := n3_; clear n0_ n1_ n2_ n3_; clear hb hbox hg) | ((with_reducible refine gate_callee (f := 22) rfl ?_); refine goesL_ (some 12) rfl rfl Tryd.func22 (by kernel_rfl) rfl #[.string a0] rfl (by (try simp only [List.map_toArray, List.map_cons, List.map_nil]); first | done | rfl | (simp only [List.length_drop, List.length_take]; rfl)) ?_; (with_reducible refine (spec_verAhead.calls k a0 t155 _ A2.out).mono ?_); rintro e w' ⟨rfl, ⟨nd, rfl⟩⟩; refine ⟨_, rfl, ?_⟩) | ((with_reducible refine gate_callee (f := 21) rfl ?_); refine goesL_ (some 13) rfl rfl Tryd.func21 (by kernel_rfl) rfl #[.string t155] rfl (by (try simp only [List.map_toArray, List.map_cons, List.map_nil]); first | done | rfl | (simp only [List.length_drop, List.length_take]; rfl)) ?_; (with_reducible refine (spec_verFields.calls k t155 t156 t157 _ A3.out).mono ?_); rintro e w11 ⟨v158, rfl, ho0, hb⟩; refine ⟨_, rfl, ?_⟩; have n0_ := Aside0.mk (Kd.R_lower ho0 (below_size (by repeat (first | (with_reducible first | exact HB.out | apply below_alloc | apply pw_below_drewN | apply below_drew1 | refine below_set ?_ GE154.out) | exact HB.out)))); have n1_ := Aside0.mk (blk_below (g := gb154) (o := .cells #[.slice none 0 0, .bool false, .string (⟨#[]⟩ : ByteArray), .string (⟨#[]⟩ : ByteArray)] 25 (0, 0)) (by (with_reducible repeat (first | refine blk_drewN ?_ _ | refine blk_drew ?_ | refine blk_alloc ?_ _)); exact BK154.out) hb); have n2_ := Aside0.mk (below_step (by repeat (first | (with_reducible first | exact HB.out | apply below_alloc | apply pw_below_drewN | apply below_drew1 | refine below_set ?_ GE154.out) | exact HB.out)) hb); clear BK154; clear HB; have HO159 := n0_; have BK154 := n1_; have HB := n2_; clear n0_ n1_ n2_; (try clear hb); (try clear hb2); (try clear hk); (try clear hi); (try clear ho0)) | ((with_reducible refine gate_callee (f := 23) rfl ?_); refine goesL_ (some 17) rfl rfl Tryd.func23 (by kernel_rfl) rfl #[.string t157, .int .u8 10] rfl (by (try simp only [List.map_toArray, List.map_cons, List.map_nil]); first | done | rfl | (simp only [List.length_drop, List.length_take]; rfl)) ?_; (with_reducible refine (spec_verPlace.calls k t157 10 t160 _ A4.out).mono ?_); rintro e w' ⟨rfl, ⟨nd, rfl⟩⟩; refine ⟨_, rfl, ?_⟩))
  (try simp only [Act.put, List.setIfInBounds_toArray, List.set_cons_zero, List.set_cons_succ])
  go_cut [29] (fun v29 wc => ∃ (kq : Nat) (x29_8 : Bool), v29 = .bool x29_8 ∧ Aside0 (spec_VerGeneric.j0 kq t156 x29_8 false (⟨#[]⟩ : ByteArray) (⟨#[]⟩ : ByteArray) = some (r1, r2, r3, r4, r5, r6)) ∧ Aside0 (kq ≤ k) ∧ Aside0 (Kd.R Kd.string 9 wc w.heap.size (fun _ => True) v158 t156) ∧ Aside0 (wc.heap[gb154]? = some (.cells #[(.slice none 0 0), .bool false, .string (⟨#[]⟩ : ByteArray), .string (⟨#[]⟩ : ByteArray)] 25 (0, 0))) ∧ Aside0 (Below w.heap.size w wc))
  case first =>
   have H := HC9.out
   clear HC9
   by_cases c12 : (t156.length : Int) < 2
   ·rw [if_pos c12] at H
    have c12b0 : decide ((t156.length : Int) < 2) = true := decide_eq_true c12
    have c12b1 : decide (t156.length < 2) = true := decide_eq_true (by omega)
    clear c12
    (first | rw [c12b0] | (simp only [i64_w, i32_w]; rw [c12b0]) | skip)
    have H' := Aside0.mk H
    clear H
    obtain ⟨Ao13, co13, eo13⟩ := Kd.R_slice HO159.out
    subst eo13
    go_wp2
    go_meet
    case rel => exact ⟨_, (true), (by first | rfl | (simp; done) | (simp [*]; done)), H', ⟨by first | omega | exact Nat.le_refl _⟩, ⟨by (with_reducible repeat (first | apply Kd.R_alloc | apply Kd.R_drewN | apply Kd.R_drew)); exact HO159.out⟩, ⟨by (with_reducible repeat (first | refine blk_drewN ?_ _ | refine blk_drew ?_ | refine blk_alloc ?_ _)); exact BK154.out⟩, ⟨by repeat (first | (with_reducible first | exact HB.out | apply below_alloc | apply pw_below_drewN | apply below_drew1 | refine below_set ?_ GE154.out) | exact HB.out)⟩⟩
   ·rw [if_neg c12] at H
    have c12b0 : decide ((t156.length : Int) < 2) = false := decide_eq_false c12
    have c12b1 : decide (t156.length < 2) = false := decide_eq_false (by omega)
    clear c12
    (first | rw [c12b0] | (simp only [i64_w, i32_w]; rw [c12b0]) | skip)
    by_cases c14 : 0 < (t156.length : Int)
    ·rw [if_pos c14] at H
     have c14b0 : decide (0 < (t156.length : Int)) = true := decide_eq_true c14
     have c14b1 : decide (0 < t156.length) = true := decide_eq_true (by omega)
     clear c14
     replace H := Option.bind_eq_some_iff.mp H
     obtain ⟨t162, A150, H⟩ := H
     replace H : (spec_VerGeneric.j0 k t156 (!t162) false (⟨#[]⟩ : ByteArray) (⟨#[]⟩ : ByteArray)) = some (r1, r2, r3, r4, r5, r6) := H
     have A15 := Aside0.mk A150
     clear A150
     have H' := Aside0.mk H
     clear H
     obtain ⟨Ao16, co16, eo16⟩ := Kd.R_slice HO159.out
     subst eo16
     have p161 : 0 ≤ (0 : Int) := (by omega)
     have q161 : 0 < (t156.length : Int) := of_decide_eq_true (by assumption)
     obtain ⟨ad161, e161, hx161_0⟩ := Kd.at_string (Kd.R_reads' HO159.out).2.2 0 p161 q161
     cases e161
     have qi161 : (0 < t156.length) = True := eq_true (by omega)
     (try rw [show ((0 : Int)).toNat = 0 from rfl] at hx161_0)
     (try rw [Addr.add_zero'] at hx161_0)
     replace p161 := eq_true p161
     replace q161 := eq_true q161
     go_wp2_with (first | (go_at_call 52; (with_reducible refine (spec_VerPlainly.calls (rdOf ByteArray.empty t156 0) t162 _ A15.out).mono ?_); rintro e w' ⟨rfl, ⟨nd, rfl⟩⟩))
     go_meet
     case rel => exact ⟨_, (!t162), (by first | rfl | (simp; done) | (simp [*]; done)), H', ⟨by first | omega | exact Nat.le_refl _⟩, ⟨by (with_reducible repeat (first | apply Kd.R_alloc | apply Kd.R_drewN | apply Kd.R_drew)); exact HO159.out⟩, ⟨by (with_reducible repeat (first | refine blk_drewN ?_ _ | refine blk_drew ?_ | refine blk_alloc ?_ _)); exact BK154.out⟩, ⟨by repeat (first | (with_reducible first | exact HB.out | apply below_alloc | apply pw_below_drewN | apply below_drew1 | refine below_set ?_ GE154.out) | exact HB.out)⟩⟩
    ·rw [if_neg c14] at H
     exact absurd H (by simp)
  case rest =>
   clear HC9
   try clear c1
   try clear p1
   try clear q1
   try clear hx1
   try clear qi1
   try clear c2
   try clear p2
   try clear c5
   try clear c5b0
   try clear c12
   try clear c12b0
   try clear c12b1
   try clear c14
   try clear c14b0
   try clear c14b1
   try clear p16
   try clear q16
   try clear hx16
   try clear qi16
   try clear hcz8_0
   try clear hcz8_1
   try clear hcz8_2
   try clear hcz8_3
   try clear hfz8_0
   try clear hfz8_1
   try clear hfz8_2
   try clear hfz8_3
   try clear hx161_0
   try clear p161
   try clear q161
   obtain ⟨kq, x29_8, rfl, HA, HJ8, HO_5, BK154, HB⟩ := hcut
   cases kq with
   | zero => exact absurd HA.out (by simp [spec_VerGeneric.j0])
   | succ kj8 =>
    have H := HA.out
    clear HA
    simp only [spec_VerGeneric.j0] at H
    by_cases c17 : x29_8 = true
    ·subst c17
     have H1 : (some (([] : List Int), false, (⟨#[]⟩ : ByteArray), (⟨#[]⟩ : ByteArray), false, true)) = some (r1, r2, r3, r4, r5, r6) := by rw [if_pos rfl] at H; exact H
     clear H
     have H := H1
     clear H1
     simp only [Option.some.injEq, Prod.mk.injEq] at H
     obtain ⟨rfl, rfl, rfl, rfl, rfl, rfl⟩ := H
     have hcz18_0 : wc.cell? ⟨gb154, 0, none⟩ = some (.slice none 0 0) := (blk_cell BK154.out 0).trans rfl
     have hcz18_1 : wc.cell? ⟨gb154, 1, none⟩ = some (.bool false) := (blk_cell BK154.out 1).trans rfl
     have hcz18_2 : wc.cell? ⟨gb154, 2, none⟩ = some (.string (⟨#[]⟩ : ByteArray)) := (blk_cell BK154.out 2).trans rfl
     have hcz18_3 : wc.cell? ⟨gb154, 3, none⟩ = some (.string (⟨#[]⟩ : ByteArray)) := (blk_cell BK154.out 3).trans rfl
     have hfz18_0 := blk_frozen BK154.out 0
     have hfz18_1 := blk_frozen BK154.out 1
     have hfz18_2 := blk_frozen BK154.out 2
     have hfz18_3 := blk_frozen BK154.out 3
     go_wp2
     refine bodyPost_ret (results_ctt rfl _ _ gb154 25 #[.slice none 0 0, .bool false, .string (⟨#[]⟩ : ByteArray), .string (⟨#[]⟩ : ByteArray)] (0, 0) _ rfl (by (with_reducible repeat (first | refine blk_drewN ?_ _ | refine blk_drew ?_ | refine blk_alloc ?_ _)); refine blk_put (cs := #[.slice none 0 0, .bool false, .string (⟨#[]⟩ : ByteArray), .string (⟨#[]⟩ : ByteArray)]) ?_ 3 _ rfl; (with_reducible repeat (first | refine blk_drewN ?_ _ | refine blk_drew ?_ | refine blk_alloc ?_ _)); refine blk_put (cs := #[.slice none 0 0, .bool false, .string (⟨#[]⟩ : ByteArray), .string (⟨#[]⟩ : ByteArray)]) ?_ 2 _ rfl; (with_reducible repeat (first | refine blk_drewN ?_ _ | refine blk_drew ?_ | refine blk_alloc ?_ _)); refine blk_put (cs := #[.slice none 0 0, .bool false, .string (⟨#[]⟩ : ByteArray), .string (⟨#[]⟩ : ByteArray)]) ?_ 1 _ rfl; (with_reducible repeat (first | refine blk_drewN ?_ _ | refine blk_drew ?_ | refine blk_alloc ?_ _)); refine blk_put (cs := #[.slice none 0 0, .bool false, .string (⟨#[]⟩ : ByteArray), .string (⟨#[]⟩ : ByteArray)]) ?_ 0 _ rfl; (with_reducible repeat (first | refine blk_drewN ?_ _ | refine blk_drew ?_ | refine blk_alloc ?_ _)); exact BK154.out) Tryd.underlying25 rfl (by kernel_rfl)) rfl ?_
     exact ⟨_, by first | rfl | (simp [errW_none, errW_some] <;> rfl) | (simp [*, errW_none, errW_some] <;> rfl), by first | exact Kd.R_nil _ _ _ _ _ | exact Kd.N_nil _ _ _ _ _ | exact Kd.V_nil _ _ _ _ _ | exact Kd.Q_nil _ _ _ _ _ | exact Kd.S_nil _ _ _ _ _, by repeat (first | (with_reducible first | exact HB.out | apply below_alloc | apply pw_below_drewN | apply below_drew1 | refine below_set ?_ GE154.out) | exact HB.out)⟩
    ·replace c17 := Bool.eq_false_iff.mpr c17
     subst c17
     have H1 : (spec_VerGeneric.l0 kj8 t156 0 ([] : List Int) false (⟨#[]⟩ : ByteArray) (⟨#[]⟩ : ByteArray)) = some (r1, r2, r3, r4, r5, r6) := by rw [if_neg (show ¬ (false = true) by decide)] at H; exact H
     clear H
     have H := H1
     clear H1
     have H' := Aside0.mk H
     clear H
     go_wp2
     go_loopg [7] kj8 (fun kq v7 w' => ∃ (x7_2 : Int) (x155000_2 : List Int) (x155001_2 : Bool) (x155002_2 : ByteArray) (x155003_2 : ByteArray) (u155000 : Value), v7 = .int .i64 x7_2 ∧ Aside0 (spec_VerGeneric.l0 kq t156 x7_2 x155000_2 x155001_2 x155002_2 x155003_2 = some (r1, r2, r3, r4, r5, r6)) ∧ Aside0 (kq ≤ kj8) ∧ Aside0 (Kd.R Kd.string 9 w' w.heap.size (fun _ => True) v158 t156) ∧ Aside0 (Kd.R (Kd.int .u64) 36 w' w.heap.size (fun _ => True) u155000 x155000_2) ∧ Aside0 (w'.heap[gb154]? = some (.cells #[u155000, .bool x155001_2, .string x155002_2, .string x155003_2] 25 (0, 0))) ∧ Aside0 (Below w.heap.size w w'))
     case atStart => exact ⟨(0), (([] : List Int)), (false), ((⟨#[]⟩ : ByteArray)), ((⟨#[]⟩ : ByteArray)), (.slice none 0 0), (by first | rfl | (simp; done) | (simp [*]; done)), H', ⟨Nat.le_refl _⟩, ⟨by (with_reducible repeat (first | apply Kd.R_alloc | apply Kd.R_drewN | apply Kd.R_drew)); exact HO_5.out⟩, ⟨by first | exact Kd.R_nil _ _ _ _ _ | exact Kd.N_nil _ _ _ _ _ | exact Kd.V_nil _ _ _ _ _ | exact Kd.Q_nil _ _ _ _ _ | exact Kd.S_nil _ _ _ _ _⟩, ⟨by (with_reducible repeat (first | refine blk_drewN ?_ _ | refine blk_drew ?_ | refine blk_alloc ?_ _)); exact BK154.out⟩, ⟨by repeat (first | (with_reducible first | exact HB.out | apply below_alloc | apply pw_below_drewN | apply below_drew1 | refine below_set ?_ GE154.out) | exact HB.out)⟩⟩
     case round =>
      clear H'
      try clear c1
      try clear p1
      try clear q1
      try clear hx1
      try clear qi1
      try clear c2
      try clear p2
      try clear c5
      try clear c5b0
      try clear c12
      try clear c12b0
      try clear c12b1
      try clear c14
      try clear c14b0
      try clear c14b1
      try clear p16
      try clear q16
      try clear hx16
      try clear qi16
      try clear c17
      try clear hcz18_0
      try clear hcz18_1
      try clear hcz18_2
      try clear hcz18_3
      try clear hcz8_0
      try clear hcz8_1
      try clear hcz8_2
      try clear hcz8_3
      try clear hfz18_0
      try clear hfz18_1
      try clear hfz18_2
      try clear hfz18_3
      try clear hfz8_0
      try clear hfz8_1
      try clear hfz8_2
      try clear hfz8_3
      try clear hx161_0
      try clear p1
      try clear p16
      try clear p161
      try clear p2
      try clear q1
      try clear q16
      try clear q161
      obtain ⟨x7_2, x155000_2, x155001_2, x155002_2, x155003_2, u155000, rfl, HA, HK2, HO_5, HO_155000, BK154, HB⟩ := hrel
      cases gk with
      | zero => exact absurd HA.out (by simp [spec_VerGeneric.l0])
      | succ k2 =>
       have H := HA.out
       clear HA
       simp only [spec_VerGeneric.l0] at H
       by_cases c19 : x7_2 < (t156.length : Int)
       ·rw [if_pos c19] at H
        have c19b0 : decide (x7_2 < (t156.length : Int)) = true := decide_eq_true c19
        clear c19
        by_cases c20 : 0 ≤ x7_2
        ·rw [if_pos c20] at H
         have c20b0 : decide (0 ≤ x7_2) = true := decide_eq_true c20
         clear c20
         replace H := Option.bind_eq_some_iff.mp H
         obtain ⟨⟨t164, t165⟩, A210, H⟩ := H
         replace H : (if t165 = true then (if x155000_2.length < 17592186044416 then (spec_VerGeneric.l0 k2 t156 (wrap64 (x7_2 + 1)) (x155000_2 ++ [t164]) x155001_2 x155002_2 x155003_2) else (none)) else (some (([] : List Int), false, (⟨#[]⟩ : ByteArray), (⟨#[]⟩ : ByteArray), false, true))) = some (r1, r2, r3, r4, r5, r6) := H
         have A21 := Aside0.mk A210
         clear A210
         by_cases c22 : t165 = true
         ·subst c22
          have H1 : (if x155000_2.length < 17592186044416 then (spec_VerGeneric.l0 k2 t156 (wrap64 (x7_2 + 1)) (x155000_2 ++ [t164]) x155001_2 x155002_2 x155003_2) else (none)) = some (r1, r2, r3, r4, r5, r6) := by rw [if_pos rfl] at H; exact H
          clear H
          have H := H1
          clear H1
          by_cases c23 : x155000_2.length < 17592186044416
          ·rw [if_pos c23] at H
           have LMc23 := Aside0.mk c23
           clear c23
           obtain ⟨y166, hy166⟩ : ∃ y_ : List Int, y_ = (x155000_2 ++ [t164]) := ⟨_, rfl⟩
           replace H : (spec_VerGeneric.l0 k2 t156 (wrap64 (x7_2 + 1)) y166 x155001_2 x155002_2 x155003_2) = some (r1, r2, r3, r4, r5, r6) := by first | (rw [hy166]; with_reducible exact H) | (have H2_ := (Option.bind_some _ _).symm.trans H; rw [hy166]; with_reducible exact H2_) | (have H2_ := (Option.bind_some _ _).symm.trans H; with_reducible exact H2_) | with_reducible exact H | (rw [hy166]; exact H) | exact H
           have Ny166 := Aside0.mk hy166
           clear hy166
           have H' := Aside0.mk H
           clear H
           obtain ⟨Ao24, co24, eo24⟩ := Kd.R_slice HO_5.out
           subst eo24
           have p163 : 0 ≤ (x7_2 : Int) := of_decide_eq_true (by assumption)
           have q163 : x7_2 < (t156.length : Int) := of_decide_eq_true (by assumption)
           obtain ⟨ad163, e163, hx163_0⟩ := Kd.at_string (Kd.R_reads' HO_5.out).2.2 x7_2 p163 q163
           cases e163
           replace p163 := eq_true p163
           replace q163 := eq_true q163
           go_wp2_with (first | ((with_reducible refine gate_callee (f := 51) rfl ?_); refine goesL_ (some 42) rfl rfl Tryd.func51 (by kernel_rfl) rfl #[.string (rdOf ByteArray.empty t156 x7_2)] rfl (by (try simp only [List.map_toArray, List.map_cons, List.map_nil]); first | done | rfl | (simp only [List.length_drop, List.length_take]; rfl)) ?_; (with_reducible refine (spec_VerUint.calls k2 (rdOf ByteArray.empty t156 x7_2) t164 true _ A21.out).mono ?_); rintro e w' ⟨rfl, ⟨nd, rfl⟩⟩; refine ⟨_, rfl, ?_⟩; (try (rw [drewN_self wr]; generalize hq_ : World.drewN wr _ = wr; have n0_ : Aside0 (Kd.R (Kd.int .u64) 36 wr w.heap.size (fun _ => True) u155000 x155000_2) := ⟨by rw [← hq_]; exact (by (with_reducible repeat (first | apply Kd.R_alloc | apply Kd.R_drewN | apply Kd.R_drew)); exact HO_155000.out)⟩; have n1_ : Aside0 (Kd.R Kd.string 9 wr w.heap.size (fun _ => True) (.slice (some ad163) t156.length co24) t156) := ⟨by rw [← hq_]; exact (by (with_reducible repeat (first | apply Kd.R_alloc | apply Kd.R_drewN | apply Kd.R_drew)); exact HO_5.out)⟩; have n2_ : Aside0 (wr.heap[gb154]? = some (.cells #[u155000, .bool x155001_2, .string x155002_2, .string x155003_2] 25 (0, 0))) := ⟨by rw [← hq_]; exact (by (with_reducible repeat (first | refine blk_drewN ?_ _ | refine blk_drew ?_ | refine blk_alloc ?_ _)); exact BK154.out)⟩; have n3_ : Aside0 (Below w.heap.size w wr) := ⟨by rw [← hq_]; exact (by repeat (first | (with_reducible first | exact HB.out | apply below_alloc | apply pw_below_drewN | apply below_drew1 | refine below_set ?_ GE154.out) | exact HB.out))⟩; clear HO_155000 HO_5 BK154 HB hq_; have HO_155000 := n0_; have HO_5 := n1_; have BK154 := n2_; have HB := n3_; clear n0_ n1_ n2_ n3_)); have hcz25_0 : wr.cell? ⟨gb154, 0, none⟩ = some (u155000) := (blk_cell BK154.out 0).trans rfl; have hcz25_1 : wr.cell? ⟨gb154, 1, none⟩ = some (.bool x155001_2) := (blk_cell BK154.out 1).trans rfl; have hcz25_2 : wr.cell? ⟨gb154, 2, none⟩ = some (.string x155002_2) := (blk_cell BK154.out 2).trans rfl; have hcz25_3 : wr.cell? ⟨gb154, 3, none⟩ = some (.string x155003_2) := (blk_cell BK154.out 3).trans rfl; have hfz25_0 := blk_frozen BK154.out 0; have hfz25_1 := blk_frozen BK154.out 1; have hfz25_2 := blk_frozen BK154.out 2; have hfz25_3 := blk_frozen BK154.out 3) | ((with_reducible refine gate_builtin (b := .append) (xs := #[.tmp 49, .tmp 51]) rfl ?_); at_builtin; refine Kd.R_append (Kd.int .u64) (w0 := w) w.heap.size rfl (.tmp 49) (.tmp 51) 23 36 (.int .u64 0) 8 rfl Tryd.underlying23 info36 rfl (by decide) (by omega) u155000 x155000_2 t164 [.int .u64 t164] (fun _ => True) (fun _ => False) rfl rfl ?aP (fun _ hk => hk.elim) ?aF ?aO ?aB ?aS ?aL ?_; (case aP => exact rfl); (case aB => exact (by repeat (first | (with_reducible first | exact HB.out | apply below_alloc | apply pw_below_drewN | apply below_drew1 | refine below_set ?_ GE154.out) | exact HB.out))); (case aF => exact (fun _ _ => trivial)); (case aO => exact (by (with_reducible repeat (first | apply Kd.R_alloc | apply Kd.R_drewN | apply Kd.R_drew)); exact HO_155000.out)); (case aS => exact (below_size (by repeat (first | (with_reducible first | exact HB.out | apply below_alloc | apply pw_below_drewN | apply below_drew1 | refine below_set ?_ GE154.out) | exact HB.out)))); (case aL => have := LMc23.out; omega); intro v167 w26 ho hb hg hat; rw [← Ny166.out] at ho; have n0_ := Aside0.mk (Kd.R_over' (by (with_reducible repeat (first | apply Kd.R_alloc | apply Kd.R_drewN | apply Kd.R_drew)); exact HO_5.out) (Kd.R_typed (by (with_reducible repeat (first | apply Kd.R_alloc | apply Kd.R_drewN | apply Kd.R_drew)); exact HO_155000.out)) (by decide) hg); have n1_ := Aside0.mk (blk_grown (g := gb154) (o := .cells #[u155000, .bool x155001_2, .string x155002_2, .string x155003_2] 25 (0, 0)) (by (with_reducible repeat (first | refine blk_drewN ?_ _ | refine blk_drew ?_ | refine blk_alloc ?_ _)); exact BK154.out) hg (Kd.R_ne HO_155000.out BK154.out (by decide))); have n2_ := Aside0.mk (hb); have n3_ := Aside0.mk (ho); clear HO_5; clear BK154; clear HB; clear HO_155000; have HO_5 := n0_; have BK154 := n1_; have HB := n2_; have HO168 := n3_; clear n0_ n1_ n2_ n3_; clear ho hb hg hat; obtain ⟨Ao27, co27, eo27⟩ := Kd.R_slice HO168.out; subst eo27; have hcz28_0 : w26.cell? ⟨gb154, 0, none⟩ = some (u155000) := (blk_cell BK154.out 0).trans rfl; have hcz28_1 : w26.cell? ⟨gb154, 1, none⟩ = some (.bool x155001_2) := (blk_cell BK154.out 1).trans rfl; have hcz28_2 : w26.cell? ⟨gb154, 2, none⟩ = some (.string x155002_2) := (blk_cell BK154.out 2).trans rfl; have hcz28_3 : w26.cell? ⟨gb154, 3, none⟩ = some (.string x155003_2) := (blk_cell BK154.out 3).trans rfl; have hfz28_0 := blk_frozen BK154.out 0; have hfz28_1 := blk_frozen BK154.out 1; have hfz28_2 := blk_frozen BK154.out 2; have hfz28_3 := blk_frozen BK154.out 3))
           go_roundg k2
           case measure => have := HJ8.out; have := HK2.out; omega
           case rel => exact ⟨(wrap64 (x7_2 + 1)), (y166), (x155001_2), (x155002_2), (x155003_2), (.slice Ao27 y166.length co27), (by first | rfl | (simp; done) | (simp [*]; done)), H', ⟨by have := HJ8.out; have := HK2.out; omega⟩, ⟨by (with_reducible repeat (first | apply Kd.R_alloc | apply Kd.R_drewN | apply Kd.R_drew)); exact Kd.R_mono (Kd.R_far (p := ⟨gb154, 0, none⟩) (Kd.R_types HO_5.out BK154.out (by decide)) (fun _ hk => hk.2) (.slice Ao27 y166.length co27)) (fun _ hk => trivial)⟩, ⟨by (with_reducible repeat (first | apply Kd.R_alloc | apply Kd.R_drewN | apply Kd.R_drew)); exact Kd.R_mono (Kd.R_far (p := ⟨gb154, 0, none⟩) (Kd.R_types HO168.out BK154.out (by decide)) (fun _ hk => hk.2) (.slice Ao27 y166.length co27)) (fun _ hk => trivial)⟩, ⟨by (with_reducible repeat (first | refine blk_drewN ?_ _ | refine blk_drew ?_ | refine blk_alloc ?_ _)); refine blk_put (cs := #[u155000, .bool x155001_2, .string x155002_2, .string x155003_2]) ?_ 0 _ rfl; (with_reducible repeat (first | refine blk_drewN ?_ _ | refine blk_drew ?_ | refine blk_alloc ?_ _)); exact BK154.out⟩, ⟨by repeat (first | (with_reducible first | exact HB.out | apply below_alloc | apply pw_below_drewN | apply below_drew1 | refine below_set ?_ GE154.out) | exact HB.out)⟩⟩
          ·rw [if_neg c23] at H
           exact absurd H (by simp)
         ·replace c22 := Bool.eq_false_iff.mpr c22
          subst c22
          have H1 : (some (([] : List Int), false, (⟨#[]⟩ : ByteArray), (⟨#[]⟩ : ByteArray), false, true)) = some (r1, r2, r3, r4, r5, r6) := by rw [if_neg (show ¬ (false = true) by decide)] at H; exact H
          clear H
          have H := H1
          clear H1
          simp only [Option.some.injEq, Prod.mk.injEq] at H
          obtain ⟨rfl, rfl, rfl, rfl, rfl, rfl⟩ := H
          obtain ⟨Ao29, co29, eo29⟩ := Kd.R_slice HO_5.out
          subst eo29
          have p163 : 0 ≤ (x7_2 : Int) := of_decide_eq_true (by assumption)
          have q163 : x7_2 < (t156.length : Int) := of_decide_eq_true (by assumption)
          obtain ⟨ad163, e163, hx163_0⟩ := Kd.at_string (Kd.R_reads' HO_5.out).2.2 x7_2 p163 q163
          cases e163
          replace p163 := eq_true p163
          replace q163 := eq_true q163
          go_wp2_with (first | ((with_reducible refine gate_callee (f := 51) rfl ?_); refine goesL_ (some 42) rfl rfl Tryd.func51 (by kernel_rfl) rfl #[.string (rdOf ByteArray.empty t156 x7_2)] rfl (by (try simp only [List.map_toArray, List.map_cons, List.map_nil]); first | done | rfl | (simp only [List.length_drop, List.length_take]; rfl)) ?_; (with_reducible refine (spec_VerUint.calls k2 (rdOf ByteArray.empty t156 x7_2) t164 false _ A21.out).mono ?_); rintro e w' ⟨rfl, ⟨nd, rfl⟩⟩; refine ⟨_, rfl, ?_⟩; (try (rw [drewN_self wr]; generalize hq_ : World.drewN wr _ = wr; have n0_ : Aside0 (Kd.R (Kd.int .u64) 36 wr w.heap.size (fun _ => True) u155000 x155000_2) := ⟨by rw [← hq_]; exact (by (with_reducible repeat (first | apply Kd.R_alloc | apply Kd.R_drewN | apply Kd.R_drew)); exact HO_155000.out)⟩; have n1_ : Aside0 (Kd.R Kd.string 9 wr w.heap.size (fun _ => True) (.slice (some ad163) t156.length co29) t156) := ⟨by rw [← hq_]; exact (by (with_reducible repeat (first | apply Kd.R_alloc | apply Kd.R_drewN | apply Kd.R_drew)); exact HO_5.out)⟩; have n2_ : Aside0 (wr.heap[gb154]? = some (.cells #[u155000, .bool x155001_2, .string x155002_2, .string x155003_2] 25 (0, 0))) := ⟨by rw [← hq_]; exact (by (with_reducible repeat (first | refine blk_drewN ?_ _ | refine blk_drew ?_ | refine blk_alloc ?_ _)); exact BK154.out)⟩; have n3_ : Aside0 (Below w.heap.size w wr) := ⟨by rw [← hq_]; exact (by repeat (first | (with_reducible first | exact HB.out | apply below_alloc | apply pw_below_drewN | apply below_drew1 | refine below_set ?_ GE154.out) | exact HB.out))⟩; clear HO_155000 HO_5 BK154 HB hq_; have HO_155000 := n0_; have HO_5 := n1_; have BK154 := n2_; have HB := n3_; clear n0_ n1_ n2_ n3_)); have hcz30_0 : wr.cell? ⟨gb154, 0, none⟩ = some (u155000) := (blk_cell BK154.out 0).trans rfl; have hcz30_1 : wr.cell? ⟨gb154, 1, none⟩ = some (.bool x155001_2) := (blk_cell BK154.out 1).trans rfl; have hcz30_2 : wr.cell? ⟨gb154, 2, none⟩ = some (.string x155002_2) := (blk_cell BK154.out 2).trans rfl; have hcz30_3 : wr.cell? ⟨gb154, 3, none⟩ = some (.string x155003_2) := (blk_cell BK154.out 3).trans rfl; have hfz30_0 := blk_frozen BK154.out 0; have hfz30_1 := blk_frozen BK154.out 1; have hfz30_2 := blk_frozen BK154.out 2; have hfz30_3 := blk_frozen BK154.out 3))
          refine bodyPost_ret (results_ctt rfl _ _ gb154 25 #[.slice none 0 0, .bool false, .string (⟨#[]⟩ : ByteArray), .string (⟨#[]⟩ : ByteArray)] (0, 0) _ rfl (by (with_reducible repeat (first | refine blk_drewN ?_ _ | refine blk_drew ?_ | refine blk_alloc ?_ _)); refine blk_put (cs := #[.slice none 0 0, .bool false, .string (⟨#[]⟩ : ByteArray), .string x155003_2]) ?_ 3 _ rfl; (with_reducible repeat (first | refine blk_drewN ?_ _ | refine blk_drew ?_ | refine blk_alloc ?_ _)); refine blk_put (cs := #[.slice none 0 0, .bool false, .string x155002_2, .string x155003_2]) ?_ 2 _ rfl; (with_reducible repeat (first | refine blk_drewN ?_ _ | refine blk_drew ?_ | refine blk_alloc ?_ _)); refine blk_put (cs := #[.slice none 0 0, .bool x155001_2, .string x155002_2, .string x155003_2]) ?_ 1 _ rfl; (with_reducible repeat (first | refine blk_drewN ?_ _ | refine blk_drew ?_ | refine blk_alloc ?_ _)); refine blk_put (cs := #[u155000, .bool x155001_2, .string x155002_2, .string x155003_2]) ?_ 0 _ rfl; (with_reducible repeat (first | refine blk_drewN ?_ _ | refine blk_drew ?_ | refine blk_alloc ?_ _)); exact BK154.out) Tryd.underlying25 rfl (by kernel_rfl)) rfl ?_
          exact ⟨_, by first | rfl | (simp [errW_none, errW_some] <;> rfl) | (simp [*, errW_none, errW_some] <;> rfl), by first | exact Kd.R_nil _ _ _ _ _ | exact Kd.N_nil _ _ _ _ _ | exact Kd.V_nil _ _ _ _ _ | exact Kd.Q_nil _ _ _ _ _ | exact Kd.S_nil _ _ _ _ _, by repeat (first | (with_reducible first | exact HB.out | apply below_alloc | apply pw_below_drewN | apply below_drew1 | refine below_set ?_ GE154.out) | exact HB.out)⟩
        ·rw [if_neg c20] at H
         exact absurd H (by simp)
       ·rw [if_neg c19] at H
        have c19b0 : decide (x7_2 < (t156.length : Int)) = false := decide_eq_false c19
        clear c19
        simp only [Option.some.injEq, Prod.mk.injEq] at H
        obtain ⟨rfl, rfl, rfl, rfl, rfl, rfl⟩ := H
        obtain ⟨Ao31, co31, eo31⟩ := Kd.R_slice HO_5.out
        subst eo31
        have hcz32_0 : wr.cell? ⟨gb154, 0, none⟩ = some (u155000) := (blk_cell BK154.out 0).trans rfl
        have hcz32_1 : wr.cell? ⟨gb154, 1, none⟩ = some (.bool x155001_2) := (blk_cell BK154.out 1).trans rfl
        have hcz32_2 : wr.cell? ⟨gb154, 2, none⟩ = some (.string x155002_2) := (blk_cell BK154.out 2).trans rfl
        have hcz32_3 : wr.cell? ⟨gb154, 3, none⟩ = some (.string x155003_2) := (blk_cell BK154.out 3).trans rfl
        have hfz32_0 := blk_frozen BK154.out 0
        have hfz32_1 := blk_frozen BK154.out 1
        have hfz32_2 := blk_frozen BK154.out 2
        have hfz32_3 := blk_frozen BK154.out 3
        obtain ⟨Ao33, co33, eo33⟩ := Kd.R_slice HO_155000.out
        subst eo33
        go_wp2
        refine bodyPost_ret (results_ctt rfl _ _ gb154 25 #[.slice Ao33 x155000_2.length co33, .bool x155001_2, .string x155002_2, .string x155003_2] (0, 0) _ rfl (by (with_reducible repeat (first | refine blk_drewN ?_ _ | refine blk_drew ?_ | refine blk_alloc ?_ _)); refine blk_put (cs := #[.slice Ao33 x155000_2.length co33, .bool x155001_2, .string x155002_2, .string x155003_2]) ?_ 3 _ rfl; (with_reducible repeat (first | refine blk_drewN ?_ _ | refine blk_drew ?_ | refine blk_alloc ?_ _)); refine blk_put (cs := #[.slice Ao33 x155000_2.length co33, .bool x155001_2, .string x155002_2, .string x155003_2]) ?_ 2 _ rfl; (with_reducible repeat (first | refine blk_drewN ?_ _ | refine blk_drew ?_ | refine blk_alloc ?_ _)); refine blk_put (cs := #[.slice Ao33 x155000_2.length co33, .bool x155001_2, .string x155002_2, .string x155003_2]) ?_ 1 _ rfl; (with_reducible repeat (first | refine blk_drewN ?_ _ | refine blk_drew ?_ | refine blk_alloc ?_ _)); refine blk_put (cs := #[.slice Ao33 x155000_2.length co33, .bool x155001_2, .string x155002_2, .string x155003_2]) ?_ 0 _ rfl; (with_reducible repeat (first | refine blk_drewN ?_ _ | refine blk_drew ?_ | refine blk_alloc ?_ _)); exact BK154.out) Tryd.underlying25 rfl (by kernel_rfl)) rfl ?_
        exact ⟨_, by first | rfl | (simp [errW_none, errW_some] <;> rfl) | (simp [*, errW_none, errW_some] <;> rfl), by (with_reducible repeat (first | apply Kd.R_alloc | apply Kd.R_drewN | apply Kd.R_drew)); exact Kd.R_mono (Kd.R_far (p := ⟨gb154, 3, none⟩) (Kd.R_far (p := ⟨gb154, 2, none⟩) (Kd.R_far (p := ⟨gb154, 1, none⟩) (Kd.R_far (p := ⟨gb154, 0, none⟩) (Kd.R_types HO_155000.out BK154.out (by decide)) (fun _ hk => hk.2) (.slice Ao33 x155000_2.length co33)) (fun _ hk => hk.2) (.bool x155001_2)) (fun _ hk => hk.2) (.string x155002_2)) (fun _ hk => hk.2) (.string x155003_2)) (fun _ hk => trivial), by repeat (first | (with_reducible first | exact HB.out | apply below_alloc | apply pw_below_drewN | apply below_drew1 | refine below_set ?_ GE154.out) | exact HB.out)⟩
end Go.Proofs.YtmfgkidppchobaaDoor.XFnVersionCompare

