/- A text of this session: the functions of the law FnAmountSign, by a program that calls the kit's print and lays this session's own contracts of single functions beside. -/
import Derived.Test.YtpchihkegmihiaaXFnAmountSignx0
import Derived.Test.YtpchihkegmihiaaXFnAmountSignx1
import Derived.Test.YtpchihkegmihiaaXFnAmountSignx4
import Derived.Test.YtpchihkegmihiaaXFnAmountSignx5
namespace Go.Proofs.Ytpchihkegmihiaa.XFnAmountSign
open Go.RowKit Go.Proofs.YtpchihkegmihiaaW.PrintWords Go.Proofs.YtpchihkegmihiaaW.PrintLast Go.Proofs.YtpchihkegmihiaaW.PrintMore
attribute [local go_sem] max2_int min2_int max_two min_two max_three min_three max_four min_four   -- for this text's walks alone
set_option linter.unusedVariables false
set_option linter.unusedSimpArgs false

/-! ### laws_amountAwake: function 23 -/
def laws_amountAwake.f (k : Nat)  : Option (Bool) := (impl_AmountAdd.f k 2 3 5 2).bind fun bt191 => (if bt191.2.2 = true then ((spec_DecimalOf.f k 25 2).bind fun bt195 => ((laws_amountIs.f k bt191.1 bt191.2.1 bt195.1 bt195.2.1 bt195.2.2).bind fun t200 => (some t200))) else (some false))
theorem laws_amountAwake.mono : ∀ k, LeO (laws_amountAwake.f k ) (laws_amountAwake.f (k + 1) ) := by
  intro  k
  unfold laws_amountAwake.f
  repeat' first
      | (with_reducible exact impl_AmountAdd.mono _ _ _ _ _)
      | (with_reducible exact laws_amountIs.mono _ _ _ _ _ _)
      | (with_reducible exact spec_DecimalOf.mono _ _ _)
      | (with_reducible exact LeO.refl _)
      | (with_reducible exact LeO.none _)
      | (with_reducible refine LeO.ite ?_ ?_)
      | (with_reducible refine LeO.bind ?_ (fun _ => ?_))
      | exact impl_AmountAdd.mono _ _ _ _ _
      | exact laws_amountIs.mono _ _ _ _ _ _
      | exact spec_DecimalOf.mono _ _ _
      | exact LeO.none _
      | refine LeO.ite ?_ ?_
      | refine LeO.bind ?_ (fun _ => ?_)
set_option maxHeartbeats 8000000 in
set_option maxRecDepth 100000 in
theorem laws_amountAwake.calls (k : Nat)  (r : Bool) (w : World) (h : laws_amountAwake.f k  = some r) :
    Calls Try.prog 23 #[] w fun e w' => e = .returned (.bool r) ∧ Below w.heap.size w w' := by
  have hu40 := Try.underlying40
  have HB := Aside0.mk (Below.refl w.heap.size w)
  have H : ((impl_AmountAdd.f k 2 3 5 2).bind fun bt191 => (if bt191.2.2 = true then ((spec_DecimalOf.f k 25 2).bind fun bt195 => ((laws_amountIs.f k bt191.1 bt191.2.1 bt195.1 bt195.2.1 bt195.2.2).bind fun t200 => (some t200))) else (some false))) = some r := h
  clear h
  replace H := Option.bind_eq_some_iff.mp H
  obtain ⟨⟨t191, t192, t193⟩, A10, H⟩ := H
  replace H : (if t193 = true then ((spec_DecimalOf.f k 25 2).bind fun bt195 => ((laws_amountIs.f k t191 t192 bt195.1 bt195.2.1 bt195.2.2).bind fun t200 => (some t200))) else (some false)) = some r := H
  have A1 := Aside0.mk A10
  clear A10
  by_cases c2 : t193 = true
  · subst c2
    have H1 : ((spec_DecimalOf.f k 25 2).bind fun bt195 => ((laws_amountIs.f k t191 t192 bt195.1 bt195.2.1 bt195.2.2).bind fun t200 => (some t200))) = some r := by rw [if_pos rfl] at H; exact H
    clear H
    have H := H1
    clear H1
    replace H := Option.bind_eq_some_iff.mp H
    obtain ⟨⟨t195, t196, t199⟩, A30, H⟩ := H
    replace H : ((laws_amountIs.f k t191 t192 t195 t196 t199).bind fun t200 => (some t200)) = some r := H
    have A3 := Aside0.mk A30
    clear A30
    replace H := Option.bind_eq_some_iff.mp H
    obtain ⟨t200, A40, H⟩ := H
    replace H : (some t200) = some r := H
    have A4 := Aside0.mk A40
    clear A40
    obtain rfl := Option.some.inj H
    go_enter Try.func23, Try.ntmps23
    try go_wp2_with (first | ((with_reducible refine gate_callee (f := 22) rfl ?_); refine goesL_ (some 6) rfl rfl Try.func22 (by kernel_rfl) rfl #[.agg #[.int .i64 2, .int .i64 3], .agg #[.int .i64 5, .int .i64 2]] rfl (by (try simp only [List.map_toArray, List.map_cons, List.map_nil]); first | done | rfl | (simp only [List.length_drop, List.length_take]; rfl)) ?_; (with_reducible refine (impl_AmountAdd.calls k 2 3 5 2 t191 t192 true _ A1.out).mono ?_); rintro e w5 ⟨rfl, hb⟩; refine ⟨_, rfl, ?_⟩; have n0_ := Aside0.mk (below_step (by repeat (first | (with_reducible first | exact HB.out | apply below_alloc | apply pw_below_drewN | apply below_drew1) | exact HB.out)) hb); clear HB; have HB := n0_; clear n0_; (try clear hb); (try clear hb2); (try clear hk); (try clear hi)) | ((with_reducible refine gate_dst (N := 1) rfl ?_); refine box_event ?hg (N := 1) ?hd (cs := #[.int .i64 0, .int .i64 0]) (t := 40) ?hr ?_; (case hd => rfl); (case hg => rfl); (case hr => first | (go_simp; done) | (go_simp; rfl)); intro gb194 hg w6 hbox hb; have n0_ := Aside0.mk (below_step (by repeat (first | (with_reducible first | exact HB.out | apply below_alloc | apply pw_below_drewN | apply below_drew1) | exact HB.out)) hb); have n1_ := Aside0.mk (hbox); have n2_ := Aside0.mk ((by rw [hg]; exact (below_size (by repeat (first | (with_reducible first | exact HB.out | apply below_alloc | apply pw_below_drewN | apply below_drew1) | exact HB.out))) : w.heap.size ≤ gb194)); have n3_ := Aside0.mk ((by rw [hg]; exact (below_size (by repeat (first | (with_reducible first | exact HB.out | apply below_alloc | apply pw_below_drewN | apply below_drew1) | exact HB.out))) : w.heap.size ≤ gb194)); clear HB; have HB := n0_; have BK194 := n1_; have GW194 := n2_; have GE194 := n3_; clear n0_ n1_ n2_ n3_; clear hb hbox hg; have hcz7_0 : w6.cell? ⟨gb194, 0, none⟩ = some (.int .i64 0) := (blk_cell BK194.out 0).trans rfl; have hcz7_1 : w6.cell? ⟨gb194, 1, none⟩ = some (.int .i64 0) := (blk_cell BK194.out 1).trans rfl; have hfz7_0 := blk_frozen BK194.out 0; have hfz7_1 := blk_frozen BK194.out 1))
    have n0_ : Aside0 (((w6.setCell ⟨gb194, 0, none⟩ (.int .i64 t191)).setCell ⟨gb194, 1, none⟩ (.int .i64 t192)).heap[gb194]? = some (.cells #[.int .i64 t191, .int .i64 t192] 40 (0, 0))) := ⟨by (with_reducible repeat (first | refine blk_drewN ?_ _ | refine blk_drew ?_ | refine blk_alloc ?_ _)); refine blk_put (cs := #[.int .i64 t191, .int .i64 0]) ?_ 1 _ rfl; (with_reducible repeat (first | refine blk_drewN ?_ _ | refine blk_drew ?_ | refine blk_alloc ?_ _)); refine blk_put (cs := #[.int .i64 0, .int .i64 0]) ?_ 0 _ rfl; (with_reducible repeat (first | refine blk_drewN ?_ _ | refine blk_drew ?_ | refine blk_alloc ?_ _)); exact BK194.out⟩
    have n1_ : Aside0 (Below w.heap.size w ((w6.setCell ⟨gb194, 0, none⟩ (.int .i64 t191)).setCell ⟨gb194, 1, none⟩ (.int .i64 t192))) := ⟨by repeat (first | (with_reducible first | exact HB.out | apply below_alloc | apply pw_below_drewN | apply below_drew1 | refine below_set ?_ GE194.out) | exact HB.out)⟩
    (try clear BK194)
    (try clear HB)
    generalize ((w6.setCell ⟨gb194, 0, none⟩ (.int .i64 t191)).setCell ⟨gb194, 1, none⟩ (.int .i64 t192)) = w8 at n0_ n1_ ⊢
    have BK194 := n0_
    have HB := n1_
    clear n0_ n1_
    have n0_ := Aside0.mk (blk_drew BK194.out)
    have n1_ := Aside0.mk (below_drew1 HB.out)
    clear BK194
    clear HB
    have BK194 := n0_
    have HB := n1_
    clear n0_ n1_
    refine start_ (n := 7) (S := fun w' => w'.cell? ⟨gb194, 0, none⟩ = some (.int .i64 t191) ∧ w'.cell? ⟨gb194, 1, none⟩ = some (.int .i64 t192)) (ds := []) #[false, false, false, false, false, false, false] (by kernel_rfl) rfl rfl ⟨(blk_cell BK194.out 0).trans rfl, (blk_cell BK194.out 1).trans rfl⟩ (fun hHeld => ?_)
    generalize w8.drew = w9 at BK194 HB hHeld ⊢
    refine pure_ (i := 0) (N := some 9) (v := ?_) (a' := ?_) #[true, false, false, false, false, false, false] rfl rfl (by kernel_rfl) (fun _ _ _ h => h) (Or.inl ⟨by rfl, ?_⟩) ?_ ?_
    rotate_left
    · intro w'
      go_simp
      with_reducible rfl
    rotate_left
    · simp only [Act.put, List.setIfInBounds_toArray, List.set_cons_zero, List.set_cons_succ, i64_w, i32_w]
      rfl
    refine pure_ (i := 1) (N := some 10) (v := ?_) (a' := ?_) #[true, true, false, false, false, false, false] rfl rfl (by kernel_rfl) (fun _ _ _ h => h) (Or.inl ⟨by rfl, ?_⟩) ?_ ?_
    rotate_left
    · intro w'
      go_simp
      with_reducible rfl
    rotate_left
    · simp only [Act.put, List.setIfInBounds_toArray, List.set_cons_zero, List.set_cons_succ, i64_w, i32_w]
      rfl
    refine take_ (i := 2) (N := some 11) (v := ?_) (a' := ?_) #[true, true, true, false, false, false, false] rfl rfl (by kernel_rfl) (fun _ _ _ h => h) (Or.inl ⟨by rfl, ?_⟩) hHeld ?_ ?_
    rotate_left
    · rintro w' ⟨s0, s1⟩
      go_simp
      with_reducible rfl
    rotate_left
    · simp only [Act.put, List.setIfInBounds_toArray, List.set_cons_zero, List.set_cons_succ, i64_w, i32_w]
      rfl
    refine one_ (i := 3) (N := some 12) #[true, true, true, true, false, false, false] rfl rfl (by kernel_rfl) (by decide) (fun K hK => ?_)
    refine goes_ Try.func10 (by kernel_rfl) rfl #[.int .i64 25, .int .i64 2] (by rfl) rfl rfl (by (try simp only [List.map_toArray, List.map_cons, List.map_nil]); first | done | rfl | (simp only [List.length_drop, List.length_take]; rfl)) ?_
    with_reducible refine (spec_DecimalOf.calls k 25 2 t195 t196 t199 _ A3.out).mono ?_
    rintro e w10 ⟨v197, rfl, ho0, hb⟩
    refine ⟨_, rfl, ?_⟩
    have n0_ := Aside0.mk (Kd.R_lower ho0 (below_size (by repeat (first | (with_reducible first | exact HB.out | apply below_alloc | apply pw_below_drewN | apply below_drew1 | refine below_set ?_ GE194.out) | exact HB.out))))
    have n1_ := Aside0.mk (blk_below (g := gb194) (o := .cells #[.int .i64 t191, .int .i64 t192] 40 (0, 0)) (by (with_reducible repeat (first | refine blk_drewN ?_ _ | refine blk_drew ?_ | refine blk_alloc ?_ _)); exact BK194.out) hb)
    have n2_ := Aside0.mk (below_step (by repeat (first | (with_reducible first | exact HB.out | apply below_alloc | apply pw_below_drewN | apply below_drew1 | refine below_set ?_ GE194.out) | exact HB.out)) hb)
    clear BK194
    clear HB
    have HO198 := n0_
    have BK194 := n1_
    have HB := n2_
    clear n0_ n1_ n2_
    (try clear hb)
    (try clear hb2)
    (try clear hk)
    (try clear hi)
    (try clear ho0)
    obtain ⟨Ao11, co11, eo11⟩ := Kd.R_slice HO198.out
    (first | subst eo11 | (injection eo11 with f1_ f2_ f3_; have f4_ := f1_.symm; have f5_ := f3_.symm; clear f1_ f2_ f3_; subst f4_; subst f5_))
    refine hK.out _ _ ⟨(blk_cell BK194.out 0).trans rfl, (blk_cell BK194.out 1).trans rfl⟩ (fun hHeld => ?_)
    clear hK K
    refine norm_ (a' := ?_) ?_ ?_
    rotate_left
    · show Act.put _ (some 12) _ = _
      simp only [Act.put, List.setIfInBounds_toArray, List.set_cons_zero, List.set_cons_succ, i64_w, i32_w]
      rfl
    refine one_ (i := 4) (N := some 13) #[true, true, true, true, true, false, false] rfl rfl (by kernel_rfl) (by decide) (fun K hK => ?_)
    refine goes_ Try.func21 (by kernel_rfl) rfl #[.agg #[.int .i64 t191, .int .i64 t192], .agg #[.bool t195, .slice Ao11 t196.length co11, .int .i64 t199]] (by rfl) rfl rfl (by (try simp only [List.map_toArray, List.map_cons, List.map_nil]); first | done | rfl | (simp only [List.length_drop, List.length_take]; rfl)) ?_
    with_reducible refine (laws_amountIs.calls k t191 t192 t195 _ _ t196 t199 t200 _ ?side1 ?side2 A4.out).mono ?_
    (case side1 => repeat (first | exact (Kd.R_reads' HO198.out).2.2 | (with_reducible refine Kd.C_alloc ?_ _) | (with_reducible refine Kd.C_drewN ?_ _) | (with_reducible refine Kd.C_drew ?_)))
    (case side2 => exact (Kd.R_reads' HO198.out).2.1)
    rintro e w12 ⟨rfl, hb⟩
    refine ⟨_, rfl, ?_⟩
    have n0_ := Aside0.mk (Kd.R_below (by (with_reducible repeat (first | apply Kd.R_alloc | apply Kd.R_drewN | apply Kd.R_drew)); exact HO198.out) hb)
    have n1_ := Aside0.mk (blk_below (g := gb194) (o := .cells #[.int .i64 t191, .int .i64 t192] 40 (0, 0)) (by (with_reducible repeat (first | refine blk_drewN ?_ _ | refine blk_drew ?_ | refine blk_alloc ?_ _)); exact BK194.out) hb)
    have n2_ := Aside0.mk (below_step (by repeat (first | (with_reducible first | exact HB.out | apply below_alloc | apply pw_below_drewN | apply below_drew1 | refine below_set ?_ GE194.out) | exact HB.out)) hb)
    clear HO198
    clear BK194
    clear HB
    have HO198 := n0_
    have BK194 := n1_
    have HB := n2_
    clear n0_ n1_ n2_
    (try clear hb)
    (try clear hb2)
    (try clear hk)
    (try clear hi)
    refine hK.out _ _ ⟨(blk_cell BK194.out 0).trans rfl, (blk_cell BK194.out 1).trans rfl⟩ (fun hHeld => ?_)
    clear hK K
    refine norm_ (a' := ?_) ?_ ?_
    rotate_left
    · show Act.put _ (some 13) _ = _
      simp only [Act.put, List.setIfInBounds_toArray, List.set_cons_zero, List.set_cons_succ, i64_w, i32_w]
      rfl
    refine pure_ (i := 5) (N := some 14) (v := ?_) (a' := ?_) #[true, true, true, true, true, true, false] rfl rfl (by kernel_rfl) (fun _ _ _ h => h) (Or.inl ⟨by rfl, ?_⟩) ?_ ?_
    rotate_left
    · intro w'
      go_simp
      with_reducible rfl
    rotate_left
    · simp only [Act.put, List.setIfInBounds_toArray, List.set_cons_zero, List.set_cons_succ, i64_w, i32_w]
      rfl
    refine pure_ (i := 6) (N := some 0) (v := ?_) (a' := ?_) #[true, true, true, true, true, true, true] rfl rfl (by kernel_rfl) (fun _ _ _ h => h) (Or.inl ⟨by rfl, ?_⟩) ?_ ?_
    rotate_left
    · intro w'
      go_simp
      with_reducible rfl
    rotate_left
    · simp only [Act.put, List.setIfInBounds_toArray, List.set_cons_zero, List.set_cons_succ, i64_w, i32_w]
      rfl
    refine done_ (by kernel_rfl) ?_
    try go_wp2
    go_ret
    exact ⟨by first | rfl | (simp [errW_none, errW_some] <;> rfl) | (simp [*, errW_none, errW_some] <;> rfl), by repeat (first | (with_reducible first | exact HB.out | apply below_alloc | apply pw_below_drewN | apply below_drew1 | refine below_set ?_ GE194.out) | exact HB.out)⟩
  · replace c2 := Bool.eq_false_iff.mpr c2
    subst c2
    have H1 : (some false) = some r := by rw [if_neg (show ¬ (false = true) by decide)] at H; exact H
    clear H
    have H := H1
    clear H1
    obtain rfl := Option.some.inj H
    go_enter Try.func23, Try.ntmps23
    try go_wp2_with (first | ((with_reducible refine gate_callee (f := 22) rfl ?_); refine goesL_ (some 6) rfl rfl Try.func22 (by kernel_rfl) rfl #[.agg #[.int .i64 2, .int .i64 3], .agg #[.int .i64 5, .int .i64 2]] rfl (by (try simp only [List.map_toArray, List.map_cons, List.map_nil]); first | done | rfl | (simp only [List.length_drop, List.length_take]; rfl)) ?_; (with_reducible refine (impl_AmountAdd.calls k 2 3 5 2 t191 t192 false _ A1.out).mono ?_); rintro e w13 ⟨rfl, hb⟩; refine ⟨_, rfl, ?_⟩; have n0_ := Aside0.mk (below_step (by repeat (first | (with_reducible first | exact HB.out | apply below_alloc | apply pw_below_drewN | apply below_drew1) | exact HB.out)) hb); clear HB; have HB := n0_; clear n0_; (try clear hb); (try clear hb2); (try clear hk); (try clear hi)) | ((with_reducible refine gate_dst (N := 1) rfl ?_); refine box_event ?hg (N := 1) ?hd (cs := #[.int .i64 0, .int .i64 0]) (t := 40) ?hr ?_; (case hd => rfl); (case hg => rfl); (case hr => first | (go_simp; done) | (go_simp; rfl)); intro gb194 hg w14 hbox hb; have n0_ := Aside0.mk (below_step (by repeat (first | (with_reducible first | exact HB.out | apply below_alloc | apply pw_below_drewN | apply below_drew1) | exact HB.out)) hb); have n1_ := Aside0.mk (hbox); have n2_ := Aside0.mk ((by rw [hg]; exact (below_size (by repeat (first | (with_reducible first | exact HB.out | apply below_alloc | apply pw_below_drewN | apply below_drew1) | exact HB.out))) : w.heap.size ≤ gb194)); have n3_ := Aside0.mk ((by rw [hg]; exact (below_size (by repeat (first | (with_reducible first | exact HB.out | apply below_alloc | apply pw_below_drewN | apply below_drew1) | exact HB.out))) : w.heap.size ≤ gb194)); clear HB; have HB := n0_; have BK194 := n1_; have GW194 := n2_; have GE194 := n3_; clear n0_ n1_ n2_ n3_; clear hb hbox hg; have hcz15_0 : w14.cell? ⟨gb194, 0, none⟩ = some (.int .i64 0) := (blk_cell BK194.out 0).trans rfl; have hcz15_1 : w14.cell? ⟨gb194, 1, none⟩ = some (.int .i64 0) := (blk_cell BK194.out 1).trans rfl; have hfz15_0 := blk_frozen BK194.out 0; have hfz15_1 := blk_frozen BK194.out 1))
    have n0_ : Aside0 (((w14.setCell ⟨gb194, 0, none⟩ (.int .i64 t191)).setCell ⟨gb194, 1, none⟩ (.int .i64 t192)).heap[gb194]? = some (.cells #[.int .i64 t191, .int .i64 t192] 40 (0, 0))) := ⟨by (with_reducible repeat (first | refine blk_drewN ?_ _ | refine blk_drew ?_ | refine blk_alloc ?_ _)); refine blk_put (cs := #[.int .i64 t191, .int .i64 0]) ?_ 1 _ rfl; (with_reducible repeat (first | refine blk_drewN ?_ _ | refine blk_drew ?_ | refine blk_alloc ?_ _)); refine blk_put (cs := #[.int .i64 0, .int .i64 0]) ?_ 0 _ rfl; (with_reducible repeat (first | refine blk_drewN ?_ _ | refine blk_drew ?_ | refine blk_alloc ?_ _)); exact BK194.out⟩
    have n1_ : Aside0 (Below w.heap.size w ((w14.setCell ⟨gb194, 0, none⟩ (.int .i64 t191)).setCell ⟨gb194, 1, none⟩ (.int .i64 t192))) := ⟨by repeat (first | (with_reducible first | exact HB.out | apply below_alloc | apply pw_below_drewN | apply below_drew1 | refine below_set ?_ GE194.out) | exact HB.out)⟩
    (try clear BK194)
    (try clear HB)
    generalize ((w14.setCell ⟨gb194, 0, none⟩ (.int .i64 t191)).setCell ⟨gb194, 1, none⟩ (.int .i64 t192)) = w16 at n0_ n1_ ⊢
    have BK194 := n0_
    have HB := n1_
    clear n0_ n1_
    have n0_ := Aside0.mk (blk_drew BK194.out)
    have n1_ := Aside0.mk (below_drew1 HB.out)
    clear BK194
    clear HB
    have BK194 := n0_
    have HB := n1_
    clear n0_ n1_
    refine start_ (n := 7) (S := fun w' => True) (ds := []) #[false, false, false, false, false, false, false] (by kernel_rfl) rfl rfl trivial (fun hHeld => ?_)
    generalize w16.drew = w17 at BK194 HB hHeld ⊢
    refine pure_ (i := 0) (N := some 9) (v := ?_) (a' := ?_) #[true, false, false, false, false, false, false] rfl rfl (by kernel_rfl) (fun _ _ _ h => h) (Or.inl ⟨by rfl, ?_⟩) ?_ ?_
    rotate_left
    · intro w'
      go_simp
      with_reducible rfl
    rotate_left
    · simp only [Act.put, List.setIfInBounds_toArray, List.set_cons_zero, List.set_cons_succ, i64_w, i32_w]
      rfl
    refine pure_ (i := 1) (N := some 10) (v := ?_) (a' := ?_) #[true, true, false, false, false, false, false] rfl rfl (by kernel_rfl) (fun _ _ _ h => h) (Or.inl ⟨by rfl, ?_⟩) ?_ ?_
    rotate_left
    · intro w'
      go_simp
      with_reducible rfl
    rotate_left
    · simp only [Act.put, List.setIfInBounds_toArray, List.set_cons_zero, List.set_cons_succ, i64_w, i32_w]
      rfl
    refine pure_ (i := 2) (N := some 11) (v := undef) (a' := ?_) #[true, true, true, false, false, false, false] rfl rfl (by kernel_rfl) (fun _ _ _ h => h) (Or.inr ⟨by rfl, rfl⟩) ?_ ?_
    rotate_left
    · simp only [Act.put, List.setIfInBounds_toArray, List.set_cons_zero, List.set_cons_succ, i64_w, i32_w]
      rfl
    refine pure_ (i := 3) (N := some 12) (v := undef) (a' := ?_) #[true, true, true, true, false, false, false] rfl rfl (by kernel_rfl) (fun _ _ _ h => h) (Or.inr ⟨by rfl, rfl⟩) ?_ ?_
    rotate_left
    · simp only [Act.put, List.setIfInBounds_toArray, List.set_cons_zero, List.set_cons_succ, i64_w, i32_w]
      rfl
    refine pure_ (i := 4) (N := some 13) (v := undef) (a' := ?_) #[true, true, true, true, true, false, false] rfl rfl (by kernel_rfl) (fun _ _ _ h => h) (Or.inr ⟨by rfl, rfl⟩) ?_ ?_
    rotate_left
    · simp only [Act.put, List.setIfInBounds_toArray, List.set_cons_zero, List.set_cons_succ, i64_w, i32_w]
      rfl
    refine pure_ (i := 5) (N := some 14) (v := ?_) (a' := ?_) #[true, true, true, true, true, true, false] rfl rfl (by kernel_rfl) (fun _ _ _ h => h) (Or.inl ⟨by rfl, ?_⟩) ?_ ?_
    rotate_left
    · intro w'
      go_simp
      with_reducible rfl
    rotate_left
    · simp only [Act.put, List.setIfInBounds_toArray, List.set_cons_zero, List.set_cons_succ, i64_w, i32_w]
      rfl
    refine pure_ (i := 6) (N := some 0) (v := ?_) (a' := ?_) #[true, true, true, true, true, true, true] rfl rfl (by kernel_rfl) (fun _ _ _ h => h) (Or.inl ⟨by rfl, ?_⟩) ?_ ?_
    rotate_left
    · intro w'
      go_simp
      with_reducible rfl
    rotate_left
    · simp only [Act.put, List.setIfInBounds_toArray, List.set_cons_zero, List.set_cons_succ, i64_w, i32_w]
      rfl
    refine done_ (by kernel_rfl) ?_
    try go_wp2
    go_ret
    exact ⟨by first | rfl | (simp [errW_none, errW_some] <;> rfl) | (simp [*, errW_none, errW_some] <;> rfl), by repeat (first | (with_reducible first | exact HB.out | apply below_alloc | apply pw_below_drewN | apply below_drew1 | refine below_set ?_ GE194.out) | exact HB.out)⟩

/-! ### resource_int64Amount_AsInt64: function 46 -/
def resource_int64Amount_AsInt64.f (k : Nat) (a0_0 : Int) (a0_1 : Int) : Option (Int × Bool) := if a0_1 = 0 then (some (a0_0, true)) else (if a0_1 < 0 then (some (0, false)) else ((resource_positiveScaleInt64.f k a0_0 a0_1).bind fun bt202 => (some (bt202.1, bt202.2))))
theorem resource_int64Amount_AsInt64.mono : ∀ a0 a1 k, LeO (resource_int64Amount_AsInt64.f k a0 a1) (resource_int64Amount_AsInt64.f (k + 1) a0 a1) := by
  intro a0 a1 k
  unfold resource_int64Amount_AsInt64.f
  repeat' first
      | (with_reducible exact resource_positiveScaleInt64.mono _ _ _)
      | (with_reducible exact LeO.refl _)
      | (with_reducible exact LeO.none _)
      | (with_reducible refine LeO.ite ?_ ?_)
      | (with_reducible refine LeO.bind ?_ (fun _ => ?_))
      | exact resource_positiveScaleInt64.mono _ _ _
      | exact LeO.none _
      | refine LeO.ite ?_ ?_
      | refine LeO.bind ?_ (fun _ => ?_)
set_option maxHeartbeats 8000000 in
set_option maxRecDepth 100000 in
theorem resource_int64Amount_AsInt64.calls (k : Nat) (a0_0 : Int) (a0_1 : Int) (r1 : Int) (r2 : Bool) (w : World) (h : resource_int64Amount_AsInt64.f k a0_0 a0_1 = some (r1, r2)) :
    Calls Try.prog 46 #[.agg #[.int .i64 a0_0, .int .i32 a0_1]] w fun e w' => e = .returned (.tuple #[.int .i64 r1, .bool r2]) ∧ Below w.heap.size w w' := by
  have hu65 := Try.underlying65
  have HB := Aside0.mk (Below.refl w.heap.size w)
  have H : (if a0_1 = 0 then (some (a0_0, true)) else (if a0_1 < 0 then (some (0, false)) else ((resource_positiveScaleInt64.f k a0_0 a0_1).bind fun bt202 => (some (bt202.1, bt202.2))))) = some (r1, r2) := h
  clear h
  by_cases c2 : a0_1 = 0
  · rw [if_pos c2] at H
    have c2b0 : (a0_1 == 0) = true := beq_iff_eq.mpr c2
    have c2b1 : (a0_1 != 0) = false := bne_eq_false_iff_eq.mpr c2
    clear c2
    simp only [Option.some.injEq, Prod.mk.injEq] at H
    obtain ⟨rfl, rfl⟩ := H
    go_enter Try.func46, Try.ntmps46
    go_wp2_with (first | ((with_reducible refine gate_dst (N := 1) rfl ?_); refine box_event ?hg (N := 1) ?hd (cs := #[.int .i64 a0_0, .int .i32 a0_1]) (t := 65) ?hr ?_; (case hd => rfl); (case hg => rfl); (case hr => first | (go_simp; done) | (go_simp; rfl)); intro gb201 hg w3 hbox hb; have n0_ := Aside0.mk (below_step (by repeat (first | (with_reducible first | exact HB.out | apply below_alloc | apply pw_below_drewN | apply below_drew1) | exact HB.out)) hb); have n1_ := Aside0.mk (hbox); have n2_ := Aside0.mk ((by rw [hg]; exact (below_size (by repeat (first | (with_reducible first | exact HB.out | apply below_alloc | apply pw_below_drewN | apply below_drew1) | exact HB.out))) : w.heap.size ≤ gb201)); have n3_ := Aside0.mk ((by rw [hg]; exact (below_size (by repeat (first | (with_reducible first | exact HB.out | apply below_alloc | apply pw_below_drewN | apply below_drew1) | exact HB.out))) : w.heap.size ≤ gb201)); clear HB; have HB := n0_; have BK201 := n1_; have GW201 := n2_; have GE201 := n3_; clear n0_ n1_ n2_ n3_; clear hb hbox hg; have hcz4_0 : w3.cell? ⟨gb201, 0, none⟩ = some (.int .i64 a0_0) := (blk_cell BK201.out 0).trans rfl; have hcz4_1 : w3.cell? ⟨gb201, 1, none⟩ = some (.int .i32 a0_1) := (blk_cell BK201.out 1).trans rfl; have hfz4_0 := blk_frozen BK201.out 0; have hfz4_1 := blk_frozen BK201.out 1))
    go_ret2
    exact ⟨by first | rfl | (simp [errW_none, errW_some] <;> rfl) | (simp [*, errW_none, errW_some] <;> rfl), by repeat (first | (with_reducible first | exact HB.out | apply below_alloc | apply pw_below_drewN | apply below_drew1 | refine below_set ?_ GE201.out) | exact HB.out)⟩
  · rw [if_neg c2] at H
    have c2b0 : (a0_1 == 0) = false := beq_eq_false_iff_ne.mpr c2
    have c2b1 : (a0_1 != 0) = true := bne_iff_ne.mpr c2
    by_cases c5 : a0_1 < 0
    · rw [if_pos c5] at H
      have c5b0 : decide (a0_1 < 0) = true := decide_eq_true c5
      clear c5
      simp only [Option.some.injEq, Prod.mk.injEq] at H
      obtain ⟨rfl, rfl⟩ := H
      go_enter Try.func46, Try.ntmps46
      go_wp2_with (first | ((with_reducible refine gate_dst (N := 1) rfl ?_); refine box_event ?hg (N := 1) ?hd (cs := #[.int .i64 a0_0, .int .i32 a0_1]) (t := 65) ?hr ?_; (case hd => rfl); (case hg => rfl); (case hr => first | (go_simp; done) | (go_simp; rfl)); intro gb201 hg w6 hbox hb; have n0_ := Aside0.mk (below_step (by repeat (first | (with_reducible first | exact HB.out | apply below_alloc | apply pw_below_drewN | apply below_drew1) | exact HB.out)) hb); have n1_ := Aside0.mk (hbox); have n2_ := Aside0.mk ((by rw [hg]; exact (below_size (by repeat (first | (with_reducible first | exact HB.out | apply below_alloc | apply pw_below_drewN | apply below_drew1) | exact HB.out))) : w.heap.size ≤ gb201)); have n3_ := Aside0.mk ((by rw [hg]; exact (below_size (by repeat (first | (with_reducible first | exact HB.out | apply below_alloc | apply pw_below_drewN | apply below_drew1) | exact HB.out))) : w.heap.size ≤ gb201)); clear HB; have HB := n0_; have BK201 := n1_; have GW201 := n2_; have GE201 := n3_; clear n0_ n1_ n2_ n3_; clear hb hbox hg; have hcz7_0 : w6.cell? ⟨gb201, 0, none⟩ = some (.int .i64 a0_0) := (blk_cell BK201.out 0).trans rfl; have hcz7_1 : w6.cell? ⟨gb201, 1, none⟩ = some (.int .i32 a0_1) := (blk_cell BK201.out 1).trans rfl; have hfz7_0 := blk_frozen BK201.out 0; have hfz7_1 := blk_frozen BK201.out 1))
      go_ret2
      exact ⟨by first | rfl | (simp [errW_none, errW_some] <;> rfl) | (simp [*, errW_none, errW_some] <;> rfl), by repeat (first | (with_reducible first | exact HB.out | apply below_alloc | apply pw_below_drewN | apply below_drew1 | refine below_set ?_ GE201.out) | exact HB.out)⟩
    · rw [if_neg c5] at H
      have c5b0 : decide (a0_1 < 0) = false := decide_eq_false c5
      clear c5
      replace H := Option.bind_eq_some_iff.mp H
      obtain ⟨⟨t202, t203⟩, A80, H⟩ := H
      replace H : (some (t202, t203)) = some (r1, r2) := H
      have A8 := Aside0.mk A80
      clear A80
      simp only [Option.some.injEq, Prod.mk.injEq] at H
      obtain ⟨rfl, rfl⟩ := H
      go_enter Try.func46, Try.ntmps46
      go_wp2_with (first | ((with_reducible refine gate_dst (N := 1) rfl ?_); refine box_event ?hg (N := 1) ?hd (cs := #[.int .i64 a0_0, .int .i32 a0_1]) (t := 65) ?hr ?_; (case hd => rfl); (case hg => rfl); (case hr => first | (go_simp; done) | (go_simp; rfl)); intro gb201 hg w9 hbox hb; have n0_ := Aside0.mk (below_step (by repeat (first | (with_reducible first | exact HB.out | apply below_alloc | apply pw_below_drewN | apply below_drew1) | exact HB.out)) hb); have n1_ := Aside0.mk (hbox); have n2_ := Aside0.mk ((by rw [hg]; exact (below_size (by repeat (first | (with_reducible first | exact HB.out | apply below_alloc | apply pw_below_drewN | apply below_drew1) | exact HB.out))) : w.heap.size ≤ gb201)); have n3_ := Aside0.mk ((by rw [hg]; exact (below_size (by repeat (first | (with_reducible first | exact HB.out | apply below_alloc | apply pw_below_drewN | apply below_drew1) | exact HB.out))) : w.heap.size ≤ gb201)); clear HB; have HB := n0_; have BK201 := n1_; have GW201 := n2_; have GE201 := n3_; clear n0_ n1_ n2_ n3_; clear hb hbox hg; have hcz10_0 : w9.cell? ⟨gb201, 0, none⟩ = some (.int .i64 a0_0) := (blk_cell BK201.out 0).trans rfl; have hcz10_1 : w9.cell? ⟨gb201, 1, none⟩ = some (.int .i32 a0_1) := (blk_cell BK201.out 1).trans rfl; have hfz10_0 := blk_frozen BK201.out 0; have hfz10_1 := blk_frozen BK201.out 1) | ((with_reducible refine gate_callee (f := 55) rfl ?_); refine goesL_ (some 16) rfl rfl Try.func55 (by kernel_rfl) rfl #[.int .i64 a0_0, .int .i32 a0_1] rfl (by (try simp only [List.map_toArray, List.map_cons, List.map_nil]); first | done | rfl | (simp only [List.length_drop, List.length_take]; rfl)) ?_; (with_reducible refine (resource_positiveScaleInt64.calls k a0_0 a0_1 t202 t203 _ A8.out).mono ?_); rintro e w' ⟨rfl, ⟨nd, rfl⟩⟩; refine ⟨_, rfl, ?_⟩))
      go_ret2
      exact ⟨by first | rfl | (simp [errW_none, errW_some] <;> rfl) | (simp [*, errW_none, errW_some] <;> rfl), by repeat (first | (with_reducible first | exact HB.out | apply below_alloc | apply pw_below_drewN | apply below_drew1 | refine below_set ?_ GE201.out) | exact HB.out)⟩

/-! ### impl_AmountInt: function 24 -/
def impl_AmountInt.f (k : Nat) (a0_0 : Int) (a0_1 : Int) : Option (Int × Bool) := (resource_ZzAmount.f a0_0 (wrap32 (a0_1))).bind fun bt205 => ((resource_int64Amount_AsInt64.f k bt205.1 bt205.2).bind fun bt207 => (some (bt207.1, bt207.2)))
theorem impl_AmountInt.mono : ∀ a0 a1 k, LeO (impl_AmountInt.f k a0 a1) (impl_AmountInt.f (k + 1) a0 a1) := by
  intro a0 a1 k
  unfold impl_AmountInt.f
  repeat' first
      | (with_reducible exact resource_int64Amount_AsInt64.mono _ _ _)
      | (with_reducible exact LeO.refl _)
      | (with_reducible exact LeO.none _)
      | (with_reducible refine LeO.ite ?_ ?_)
      | (with_reducible refine LeO.bind ?_ (fun _ => ?_))
      | exact resource_int64Amount_AsInt64.mono _ _ _
      | exact LeO.none _
      | refine LeO.ite ?_ ?_
      | refine LeO.bind ?_ (fun _ => ?_)
set_option maxHeartbeats 8000000 in
set_option maxRecDepth 100000 in
theorem impl_AmountInt.calls (k : Nat) (a0_0 : Int) (a0_1 : Int) (r1 : Int) (r2 : Bool) (w : World) (h : impl_AmountInt.f k a0_0 a0_1 = some (r1, r2)) :
    Calls Try.prog 24 #[.agg #[.int .i64 a0_0, .int .i64 a0_1]] w fun e w' => e = .returned (.tuple #[.int .i64 r1, .bool r2]) ∧ Below w.heap.size w w' := by
  have hu40 := Try.underlying40
  have HB := Aside0.mk (Below.refl w.heap.size w)
  have H : ((resource_ZzAmount.f a0_0 (wrap32 (a0_1))).bind fun bt205 => ((resource_int64Amount_AsInt64.f k bt205.1 bt205.2).bind fun bt207 => (some (bt207.1, bt207.2)))) = some (r1, r2) := h
  clear h
  replace H := Option.bind_eq_some_iff.mp H
  obtain ⟨⟨t205, t206⟩, A20, H⟩ := H
  replace H : ((resource_int64Amount_AsInt64.f k t205 t206).bind fun bt207 => (some (bt207.1, bt207.2))) = some (r1, r2) := H
  have A2 := Aside0.mk A20
  clear A20
  replace H := Option.bind_eq_some_iff.mp H
  obtain ⟨⟨t207, t208⟩, A30, H⟩ := H
  replace H : (some (t207, t208)) = some (r1, r2) := H
  have A3 := Aside0.mk A30
  clear A30
  simp only [Option.some.injEq, Prod.mk.injEq] at H
  obtain ⟨rfl, rfl⟩ := H
  go_enter Try.func24, Try.ntmps24
  go_wp2_with (first | ((with_reducible refine gate_dst (N := 1) rfl ?_); refine box_event ?hg (N := 1) ?hd (cs := #[.int .i64 a0_0, .int .i64 a0_1]) (t := 40) ?hr ?_; (case hd => rfl); (case hg => rfl); (case hr => first | (go_simp; done) | (go_simp; rfl)); intro gb204 hg w4 hbox hb; have n0_ := Aside0.mk (below_step (by repeat (first | (with_reducible first | exact HB.out | apply below_alloc | apply pw_below_drewN | apply below_drew1) | exact HB.out)) hb); have n1_ := Aside0.mk (hbox); have n2_ := Aside0.mk ((by rw [hg]; exact (below_size (by repeat (first | (with_reducible first | exact HB.out | apply below_alloc | apply pw_below_drewN | apply below_drew1) | exact HB.out))) : w.heap.size ≤ gb204)); have n3_ := Aside0.mk ((by rw [hg]; exact (below_size (by repeat (first | (with_reducible first | exact HB.out | apply below_alloc | apply pw_below_drewN | apply below_drew1) | exact HB.out))) : w.heap.size ≤ gb204)); clear HB; have HB := n0_; have BK204 := n1_; have GW204 := n2_; have GE204 := n3_; clear n0_ n1_ n2_ n3_; clear hb hbox hg; have hcz5_0 : w4.cell? ⟨gb204, 0, none⟩ = some (.int .i64 a0_0) := (blk_cell BK204.out 0).trans rfl; have hcz5_1 : w4.cell? ⟨gb204, 1, none⟩ = some (.int .i64 a0_1) := (blk_cell BK204.out 1).trans rfl; have hfz5_0 := blk_frozen BK204.out 0; have hfz5_1 := blk_frozen BK204.out 1) | ((with_reducible refine gate_callee (f := 41) rfl ?_); refine goesL_ (some 9) rfl rfl Try.func41 (by kernel_rfl) rfl #[.int .i64 a0_0, .int .i32 (wrap32 (a0_1))] rfl (by (try simp only [List.map_toArray, List.map_cons, List.map_nil]); first | done | rfl | (simp only [List.length_drop, List.length_take]; rfl)) ?_; (with_reducible refine (resource_ZzAmount.calls a0_0 (wrap32 (a0_1)) t205 t206 _ A2.out).mono ?_); rintro e w6 ⟨rfl, hb⟩; refine ⟨_, rfl, ?_⟩; have n0_ := Aside0.mk (blk_below (g := gb204) (o := .cells #[.int .i64 a0_0, .int .i64 a0_1] 40 (0, 0)) (by (with_reducible repeat (first | refine blk_drewN ?_ _ | refine blk_drew ?_ | refine blk_alloc ?_ _)); exact BK204.out) hb); have n1_ := Aside0.mk (below_step (by repeat (first | (with_reducible first | exact HB.out | apply below_alloc | apply pw_below_drewN | apply below_drew1 | refine below_set ?_ GE204.out) | exact HB.out)) hb); clear BK204; clear HB; have BK204 := n0_; have HB := n1_; clear n0_ n1_; (try clear hb); (try clear hb2); (try clear hk); (try clear hi)) | ((with_reducible refine gate_callee (f := 46) rfl ?_); refine goesL_ (some 10) rfl rfl Try.func46 (by kernel_rfl) rfl #[.agg #[.int .i64 t205, .int .i32 t206]] rfl (by (try simp only [List.map_toArray, List.map_cons, List.map_nil]); first | done | rfl | (simp only [List.length_drop, List.length_take]; rfl)) ?_; (with_reducible refine (resource_int64Amount_AsInt64.calls k t205 t206 t207 t208 _ A3.out).mono ?_); rintro e w7 ⟨rfl, hb⟩; refine ⟨_, rfl, ?_⟩; have n0_ := Aside0.mk (blk_below (g := gb204) (o := .cells #[.int .i64 a0_0, .int .i64 a0_1] 40 (0, 0)) (by (with_reducible repeat (first | refine blk_drewN ?_ _ | refine blk_drew ?_ | refine blk_alloc ?_ _)); exact BK204.out) hb); have n1_ := Aside0.mk (below_step (by repeat (first | (with_reducible first | exact HB.out | apply below_alloc | apply pw_below_drewN | apply below_drew1 | refine below_set ?_ GE204.out) | exact HB.out)) hb); clear BK204; clear HB; have BK204 := n0_; have HB := n1_; clear n0_ n1_; (try clear hb); (try clear hb2); (try clear hk); (try clear hi)))
  go_ret2
  exact ⟨by first | rfl | (simp [errW_none, errW_some] <;> rfl) | (simp [*, errW_none, errW_some] <;> rfl), by repeat (first | (with_reducible first | exact HB.out | apply below_alloc | apply pw_below_drewN | apply below_drew1 | refine below_set ?_ GE204.out) | exact HB.out)⟩

/-! ### spec_wide: function 32 -/
def spec_wide.l0 : Nat → Int → List Int → Int → Option (List Int)
  | 0, _, _, _ => none
  | k + 1, x1, x5, x6 => if x6 > x1 then (if (x5.length : Int) > 0 then (if x5.length < 17592186044416 then (spec_wide.l0 k x1 (x5 ++ [0]) (wrap64 (x6 - 1))) else (none)) else (some x5)) else (some x5)
def spec_wide.f (k : Nat) (a0_0 : Bool) (l0_1 : List Int) (a0_2 : Int) (a1 : Int) : Option (List Int) := (some (([] : List Int) : List Int)).bind fun y210 => (if y210.length + l0_1.length < 17592186044416 then (spec_wide.l0 k a1 (y210 ++ l0_1) a0_2) else (none))
theorem spec_wide.mono_l : ∀ k, (∀ y0 y1 y2, LeO (spec_wide.l0 k y0 y1 y2) (spec_wide.l0 (k + 1) y0 y1 y2))
  | 0 => fun _ _ _ r h => by simp [spec_wide.l0] at h
  | k + 1 => by
    have ih0 := spec_wide.mono_l k
    · intro y0 y1 y2
      unfold spec_wide.l0
      repeat' first
      | (with_reducible exact ih0 _ _ _)
      | (with_reducible exact LeO.refl _)
      | (with_reducible exact LeO.none _)
      | (with_reducible refine LeO.ite ?_ ?_)
      | (with_reducible refine LeO.bind ?_ (fun _ => ?_))
      | exact ih0 _ _ _
      | exact LeO.none _
      | refine LeO.ite ?_ ?_
      | refine LeO.bind ?_ (fun _ => ?_)
theorem spec_wide.mono : ∀ a0 a1 a2 a3 k, LeO (spec_wide.f k a0 a1 a2 a3) (spec_wide.f (k + 1) a0 a1 a2 a3) := by
  intro a0 a1 a2 a3 k
  have ih0 := spec_wide.mono_l k
  unfold spec_wide.f
  repeat' first
      | (with_reducible exact ih0 _ _ _)
      | (with_reducible exact LeO.refl _)
      | (with_reducible exact LeO.none _)
      | (with_reducible refine LeO.ite ?_ ?_)
      | (with_reducible refine LeO.bind ?_ (fun _ => ?_))
      | exact ih0 _ _ _
      | exact LeO.none _
      | refine LeO.ite ?_ ?_
      | refine LeO.bind ?_ (fun _ => ?_)
set_option maxHeartbeats 8000000 in
set_option maxRecDepth 100000 in
theorem spec_wide.calls (k : Nat) (a0_0 : Bool) (A0_1 : Option Addr) (c0_1 : Nat) (l0_1 : List Int) (a0_2 : Int) (a1 : Int) (r : List Int) (w : World) (hr0_1 : Kd.C (Kd.int .i64) w A0_1 l0_1.length l0_1) (hc0_1 : l0_1.length ≤ c0_1) (h : spec_wide.f k a0_0 l0_1 a0_2 a1 = some r) :
    Calls Try.prog 32 #[.agg #[.bool a0_0, .slice A0_1 l0_1.length c0_1, .int .i64 a0_2], .int .i64 a1] w fun e w' => ∃ v0_ : Value, e = .returned (v0_) ∧ Kd.R (Kd.int .i64) 3 w' w.heap.size (fun _ => True) v0_ r ∧ Below w.heap.size w w' := by
  have hu24 := Try.underlying24
  have HR0_1 := Aside0.mk hr0_1
  have HC0_1 := Aside0.mk hc0_1
  clear hr0_1 hc0_1
  have HB := Aside0.mk (Below.refl w.heap.size w)
  have H : ((some (([] : List Int) : List Int)).bind fun y210 => (if y210.length + l0_1.length < 17592186044416 then (spec_wide.l0 k a1 (y210 ++ l0_1) a0_2) else (none))) = some r := h
  clear h
  obtain ⟨y210, hy210⟩ : ∃ y_ : List Int, y_ = (([] : List Int)) := ⟨_, rfl⟩
  replace H : (if y210.length + l0_1.length < 17592186044416 then (spec_wide.l0 k a1 (y210 ++ l0_1) a0_2) else (none)) = some r := by first | (rw [hy210]; with_reducible exact H) | (have H2_ := (Option.bind_some _ _).symm.trans H; rw [hy210]; with_reducible exact H2_) | (have H2_ := (Option.bind_some _ _).symm.trans H; with_reducible exact H2_) | with_reducible exact H | (rw [hy210]; exact H) | exact H
  have Ny210 := Aside0.mk hy210
  clear hy210
  by_cases c3 : y210.length + l0_1.length < 17592186044416
  · rw [if_pos c3] at H
    have LMc3 := Aside0.mk c3
    clear c3
    obtain ⟨y213, hy213⟩ : ∃ y_ : List Int, y_ = (y210 ++ l0_1) := ⟨_, rfl⟩
    replace H : (spec_wide.l0 k a1 y213 a0_2) = some r := by first | (rw [hy213]; with_reducible exact H) | (have H2_ := (Option.bind_some _ _).symm.trans H; rw [hy213]; with_reducible exact H2_) | (have H2_ := (Option.bind_some _ _).symm.trans H; with_reducible exact H2_) | with_reducible exact H | (rw [hy213]; exact H) | exact H
    have Ny213 := Aside0.mk hy213
    clear hy213
    have H' := Aside0.mk H
    clear H
    go_enter Try.func32, Try.ntmps32
    go_wp2_with (first | ((with_reducible refine gate_dst (N := 2) rfl ?_); (try (refine gate_guard (by rfl) ?_; dsimp only)); refine box_event ?hg (N := 2) ?hd (cs := #[.bool a0_0, .slice A0_1 l0_1.length c0_1, .int .i64 a0_2]) (t := 24) ?hr ?_; (case hd => rfl); (case hg => rfl); (case hr => first | (go_simp; done) | (go_simp; rfl)); intro gb209 hg w4 hbox hb; have n0_ := Aside0.mk (below_step (by repeat (first | (with_reducible first | exact HB.out | apply below_alloc | apply pw_below_drewN | apply below_drew1) | exact HB.out)) hb); have n1_ := Aside0.mk (hbox); have n2_ := Aside0.mk ((by rw [hg]; exact (below_size (by repeat (first | (with_reducible first | exact HB.out | apply below_alloc | apply pw_below_drewN | apply below_drew1) | exact HB.out))) : w.heap.size ≤ gb209)); have n3_ := Aside0.mk ((by rw [hg]; exact (below_size (by repeat (first | (with_reducible first | exact HB.out | apply below_alloc | apply pw_below_drewN | apply below_drew1) | exact HB.out))) : w.heap.size ≤ gb209)); clear HB; have HB := n0_; have BK209 := n1_; have GW209 := n2_; have GE209 := n3_; clear n0_ n1_ n2_ n3_; clear hb hbox hg) | ((with_reducible refine gate_dst (N := 7) rfl ?_); (try (refine gate_guard (by rfl) ?_; dsimp only)); refine Kd.R_lit (Kd.int .i64) _ 3 ?hg (N := 7) ?hd (xs := ([] : List Int)) (inner := []) (ok := fun _ => True) (okp := fun _ => True) ?hr ?hp (fun _ hk => hk) trivial (Below.refl _ _) (Nat.le_refl _) (by simp) ?_; (case hd => rfl); (case hg => rfl); (case hr => first | (go_simp; done) | (go_simp; rfl)); (case hp => exact (Reps.none _ _)); intro v211 w5 ho6 hb hg_ hnew_; clear hg_ hnew_; (first | rw [← Ny210.out] at ho6 | (simp only [Int.reduceToNat] at ho6; rw [← Ny210.out] at ho6)); have n0_ := Aside0.mk (Kd.R_lower ho6 (below_size (by repeat (first | (with_reducible first | exact HB.out | apply below_alloc | apply pw_below_drewN | apply below_drew1 | refine below_set ?_ GE209.out) | exact HB.out)))); have n1_ := Aside0.mk (blk_below (g := gb209) (o := .cells #[.bool a0_0, .slice A0_1 l0_1.length c0_1, .int .i64 a0_2] 24 (0, 0)) (by (with_reducible repeat (first | refine blk_drewN ?_ _ | refine blk_drew ?_ | refine blk_alloc ?_ _)); exact BK209.out) hb); have n2_ := Aside0.mk (below_step (by repeat (first | (with_reducible first | exact HB.out | apply below_alloc | apply pw_below_drewN | apply below_drew1 | refine below_set ?_ GE209.out) | exact HB.out)) hb); clear BK209; clear HB; have HO212 := n0_; have BK209 := n1_; have HB := n2_; clear n0_ n1_ n2_; clear hb ho6; have hcz7_0 : w5.cell? ⟨gb209, 0, none⟩ = some (.bool a0_0) := (blk_cell BK209.out 0).trans rfl; have hcz7_1 : w5.cell? ⟨gb209, 1, none⟩ = some (.slice A0_1 l0_1.length c0_1) := (blk_cell BK209.out 1).trans rfl; have hcz7_2 : w5.cell? ⟨gb209, 2, none⟩ = some (.int .i64 a0_2) := (blk_cell BK209.out 2).trans rfl; have hfz7_0 := blk_frozen BK209.out 0; have hfz7_1 := blk_frozen BK209.out 1; have hfz7_2 := blk_frozen BK209.out 2) | ((with_reducible refine gate_builtin (b := .append) (xs := #[.tmp 7, .tmp 9]) rfl ?_); (try (refine gate_guard (by rfl) ?_; dsimp only)); at_builtin; refine Kd.R_append_rows (Kd.int .i64) (w0 := w) w.heap.size rfl (.tmp 7) (.tmp 9) 22 3 (.int .i64 0) 8 rfl Try.underlying22 info3 rfl (by decide) (by omega) v211 y210 l0_1 _ _ _ (fun _ => True) (fun _ => False) rfl rfl ?aO ?aR (fun _ _ h => h) (fun _ h => h.elim) ?aF ?aB ?aS ?aL ?_; (case aR => repeat (first | exact (Kd.C_below HR0_1.out HB.out) | (with_reducible refine Kd.C_alloc ?_ _) | (with_reducible refine Kd.C_drewN ?_ _) | (with_reducible refine Kd.C_drew ?_))); (case aB => exact (by repeat (first | (with_reducible first | exact HB.out | apply below_alloc | apply pw_below_drewN | apply below_drew1 | refine below_set ?_ GE209.out) | exact HB.out))); (case aF => exact (fun _ _ => trivial)); (case aO => exact (by (with_reducible repeat (first | apply Kd.R_alloc | apply Kd.R_drewN | apply Kd.R_drew)); exact HO212.out)); (case aS => exact (below_size (by repeat (first | (with_reducible first | exact HB.out | apply below_alloc | apply pw_below_drewN | apply below_drew1 | refine below_set ?_ GE209.out) | exact HB.out)))); (case aL => have := LMc3.out; omega); intro v214 w8 ho hb hg hat; rw [← Ny213.out] at ho; have n0_ := Aside0.mk (blk_grown (g := gb209) (o := .cells #[.bool a0_0, .slice A0_1 l0_1.length c0_1, .int .i64 a0_2] 24 (0, 0)) (by (with_reducible repeat (first | refine blk_drewN ?_ _ | refine blk_drew ?_ | refine blk_alloc ?_ _)); exact BK209.out) hg (Kd.R_ne HO212.out BK209.out (by decide))); have n1_ := Aside0.mk (hb); have n2_ := Aside0.mk (ho); clear BK209; clear HB; clear HO212; have BK209 := n0_; have HB := n1_; have HO215 := n2_; clear n0_ n1_ n2_; clear ho hb hg hat; have hcz9_0 : w8.cell? ⟨gb209, 0, none⟩ = some (.bool a0_0) := (blk_cell BK209.out 0).trans rfl; have hcz9_1 : w8.cell? ⟨gb209, 1, none⟩ = some (.slice A0_1 l0_1.length c0_1) := (blk_cell BK209.out 1).trans rfl; have hcz9_2 : w8.cell? ⟨gb209, 2, none⟩ = some (.int .i64 a0_2) := (blk_cell BK209.out 2).trans rfl; have hfz9_0 := blk_frozen BK209.out 0; have hfz9_1 := blk_frozen BK209.out 1; have hfz9_2 := blk_frozen BK209.out 2))
    go_loopg [5, 6] k (fun kq v5 v6 w' => ∃ (x5_1 : List Int) (x6_1 : Int), v6 = .int .i64 x6_1 ∧ Aside0 (spec_wide.l0 kq a1 x5_1 x6_1 = some r) ∧ Aside0 (kq ≤ k) ∧ Aside0 (Kd.R (Kd.int .i64) 3 w' w.heap.size (fun _ => True) v5 x5_1) ∧ Aside0 (w'.heap[gb209]? = some (.cells #[.bool a0_0, (.slice A0_1 l0_1.length c0_1), .int .i64 a0_2] 24 (0, 0))) ∧ Aside0 (Below w.heap.size w w'))
    case atStart => exact ⟨(y213), (a0_2), (by first | rfl | (simp; done) | (simp [*]; done)), H', ⟨Nat.le_refl _⟩, ⟨by (with_reducible repeat (first | apply Kd.R_alloc | apply Kd.R_drewN | apply Kd.R_drew)); exact HO215.out⟩, ⟨by (with_reducible repeat (first | refine blk_drewN ?_ _ | refine blk_drew ?_ | refine blk_alloc ?_ _)); exact BK209.out⟩, ⟨by repeat (first | (with_reducible first | exact HB.out | apply below_alloc | apply pw_below_drewN | apply below_drew1 | refine below_set ?_ GE209.out) | exact HB.out)⟩⟩
    case round =>
      clear H'
      try clear p2
      try clear c3
      try clear hcz7_0
      try clear hcz7_1
      try clear hcz7_2
      try clear hcz9_0
      try clear hcz9_1
      try clear hcz9_2
      try clear hfz7_0
      try clear hfz7_1
      try clear hfz7_2
      try clear hfz9_0
      try clear hfz9_1
      try clear hfz9_2
      obtain ⟨x5_1, x6_1, rfl, HA, HK1, HO_5, BK209, HB⟩ := hrel
      cases gk with
      | zero => exact absurd HA.out (by simp [spec_wide.l0])
      | succ k1 =>
        have H := HA.out
        clear HA
        simp only [spec_wide.l0] at H
        by_cases c10 : x6_1 > a1
        · rw [if_pos c10] at H
          have c10b0 : decide (a1 < x6_1) = true := decide_eq_true c10
          clear c10
          by_cases c11 : (x5_1.length : Int) > 0
          · rw [if_pos c11] at H
            have c11b0 : decide (0 < (x5_1.length : Int)) = true := decide_eq_true c11
            have c11b1 : decide (0 < x5_1.length) = true := decide_eq_true (by omega)
            clear c11
            by_cases c12 : x5_1.length < 17592186044416
            · rw [if_pos c12] at H
              have LMc12 := Aside0.mk c12
              clear c12
              obtain ⟨y216, hy216⟩ : ∃ y_ : List Int, y_ = (x5_1 ++ [0]) := ⟨_, rfl⟩
              replace H : (spec_wide.l0 k1 a1 y216 (wrap64 (x6_1 - 1))) = some r := by first | (rw [hy216]; with_reducible exact H) | (have H2_ := (Option.bind_some _ _).symm.trans H; rw [hy216]; with_reducible exact H2_) | (have H2_ := (Option.bind_some _ _).symm.trans H; with_reducible exact H2_) | with_reducible exact H | (rw [hy216]; exact H) | exact H
              have Ny216 := Aside0.mk hy216
              clear hy216
              have H' := Aside0.mk H
              clear H
              obtain ⟨Ao13, co13, eo13⟩ := Kd.R_slice HO_5.out
              subst eo13
              go_wp2_with (first | ((with_reducible refine gate_builtin (b := .append) (xs := #[.tmp 23, .tmp 24]) rfl ?_); (try (refine gate_guard (by rfl) ?_; dsimp only)); at_builtin; refine Kd.R_append (Kd.int .i64) (w0 := w) w.heap.size rfl (.tmp 23) (.tmp 24) 22 3 (.int .i64 0) 8 rfl Try.underlying22 info3 rfl (by decide) (by omega) (.slice Ao13 x5_1.length co13) x5_1 0 [.int .i64 0] (fun _ => True) (fun _ => False) rfl rfl ?aP (fun _ hk => hk.elim) ?aF ?aO ?aB ?aS ?aL ?_; (case aP => exact rfl); (case aB => exact (by repeat (first | (with_reducible first | exact HB.out | apply below_alloc | apply pw_below_drewN | apply below_drew1 | refine below_set ?_ GE209.out) | exact HB.out))); (case aF => exact (fun _ _ => trivial)); (case aO => exact (by (with_reducible repeat (first | apply Kd.R_alloc | apply Kd.R_drewN | apply Kd.R_drew)); exact HO_5.out)); (case aS => exact (below_size (by repeat (first | (with_reducible first | exact HB.out | apply below_alloc | apply pw_below_drewN | apply below_drew1 | refine below_set ?_ GE209.out) | exact HB.out)))); (case aL => have := LMc12.out; omega); intro v217 w14 ho hb hg hat; rw [← Ny216.out] at ho; have n0_ := Aside0.mk (blk_grown (g := gb209) (o := .cells #[.bool a0_0, .slice A0_1 l0_1.length c0_1, .int .i64 a0_2] 24 (0, 0)) (by (with_reducible repeat (first | refine blk_drewN ?_ _ | refine blk_drew ?_ | refine blk_alloc ?_ _)); exact BK209.out) hg (Kd.R_ne HO_5.out BK209.out (by decide))); have n1_ := Aside0.mk (hb); have n2_ := Aside0.mk (ho); clear BK209; clear HB; clear HO_5; have BK209 := n0_; have HB := n1_; have HO218 := n2_; clear n0_ n1_ n2_; clear ho hb hg hat))
              go_roundg k1
              case measure => have := HK1.out; omega
              case rel => exact ⟨(y216), (wrap64 (x6_1 - 1)), (by first | rfl | (simp; done) | (simp [*]; done)), H', ⟨by have := HK1.out; omega⟩, ⟨by (with_reducible repeat (first | apply Kd.R_alloc | apply Kd.R_drewN | apply Kd.R_drew)); exact HO218.out⟩, ⟨by (with_reducible repeat (first | refine blk_drewN ?_ _ | refine blk_drew ?_ | refine blk_alloc ?_ _)); exact BK209.out⟩, ⟨by repeat (first | (with_reducible first | exact HB.out | apply below_alloc | apply pw_below_drewN | apply below_drew1 | refine below_set ?_ GE209.out) | exact HB.out)⟩⟩
            · rw [if_neg c12] at H
              exact absurd H (by simp)
          · rw [if_neg c11] at H
            have c11b0 : decide (0 < (x5_1.length : Int)) = false := decide_eq_false c11
            have c11b1 : decide (0 < x5_1.length) = false := decide_eq_false (by omega)
            clear c11
            obtain rfl := Option.some.inj H
            obtain ⟨Ao15, co15, eo15⟩ := Kd.R_slice HO_5.out
            subst eo15
            go_wp2
            go_ret
            exact ⟨_, by first | rfl | (simp [errW_none, errW_some] <;> rfl) | (simp [*, errW_none, errW_some] <;> rfl), by (with_reducible repeat (first | apply Kd.R_alloc | apply Kd.R_drewN | apply Kd.R_drew)); exact HO_5.out, by repeat (first | (with_reducible first | exact HB.out | apply below_alloc | apply pw_below_drewN | apply below_drew1 | refine below_set ?_ GE209.out) | exact HB.out)⟩
        · rw [if_neg c10] at H
          have c10b0 : decide (a1 < x6_1) = false := decide_eq_false c10
          clear c10
          obtain rfl := Option.some.inj H
          go_wp2
          go_ret
          exact ⟨_, by first | rfl | (simp [errW_none, errW_some] <;> rfl) | (simp [*, errW_none, errW_some] <;> rfl), by (with_reducible repeat (first | apply Kd.R_alloc | apply Kd.R_drewN | apply Kd.R_drew)); exact HO_5.out, by repeat (first | (with_reducible first | exact HB.out | apply below_alloc | apply pw_below_drewN | apply below_drew1 | refine below_set ?_ GE209.out) | exact HB.out)⟩
  · rw [if_neg c3] at H
    exact absurd H (by simp)

/-! ### spec_DecimalInt: function 25 -/
mutual
def spec_DecimalInt.j0 : Nat → Bool → Bool → List Int → Int → Option (Int × Bool)
  | 0, _, _, _, _ => none
  | k + 1, x24, x220000, x220001, x220002 => if x24 = true then (some (0, false)) else ((spec_wide.f k x220000 x220001 x220002 0).bind fun t220 => (spec_DecimalInt.l0 k 0 t220 (t220.length : Int) 0 x220000 x220001 x220002))
def spec_DecimalInt.l0 : Nat → Int → List Int → Int → Int → Bool → List Int → Int → Option (Int × Bool)
  | 0, _, _, _, _, _, _, _ => none
  | k + 1, x4, x26, x27, x28, x220000, x220001, x220002 => if x28 < x27 then (if 0 ≤ x28 then (if x28 < (x26.length : Int) then (spec_DecimalInt.l0 k (IntKind.u64.wrap ((IntKind.u64.wrap (10 * x4)) + (IntKind.u64.wrap (rd x26 x28)))) x26 x27 (wrap64 (x28 + 1)) x220000 x220001 x220002) else (none)) else (none)) else (if x220000 = true then (some (wrap64 (IntKind.u64.wrap (-x4)), decide (x4 ≤ 9223372036854775808))) else (some (wrap64 (x4), decide (x4 < 9223372036854775808))))
end
def spec_DecimalInt.f (k : Nat) (a0_0 : Bool) (l0_1 : List Int) (a0_2 : Int) : Option (Int × Bool) := if (l0_1.length : Int) > 0 then (if a0_2 < 0 then (spec_DecimalInt.j0 k true a0_0 l0_1 a0_2) else (spec_DecimalInt.j0 k (decide ((wrap64 ((l0_1.length : Int) + a0_2)) > 19)) a0_0 l0_1 a0_2)) else (spec_DecimalInt.j0 k false a0_0 l0_1 a0_2)
theorem spec_DecimalInt.mono_l : ∀ k, (∀ y0 y1 y2 y3, LeO (spec_DecimalInt.j0 k y0 y1 y2 y3) (spec_DecimalInt.j0 (k + 1) y0 y1 y2 y3)) ∧ (∀ y0 y1 y2 y3 y4 y5 y6, LeO (spec_DecimalInt.l0 k y0 y1 y2 y3 y4 y5 y6) (spec_DecimalInt.l0 (k + 1) y0 y1 y2 y3 y4 y5 y6))
  | 0 => ⟨fun _ _ _ _ r h => by simp [spec_DecimalInt.j0] at h, fun _ _ _ _ _ _ _ r h => by simp [spec_DecimalInt.l0] at h⟩
  | k + 1 => by
    obtain ⟨ih0, ih1⟩ := spec_DecimalInt.mono_l k
    refine ⟨?_, ?_⟩
    · intro y0 y1 y2 y3
      unfold spec_DecimalInt.j0
      repeat' first
      | (with_reducible exact ih0 _ _ _ _)
      | (with_reducible exact ih1 _ _ _ _ _ _ _)
      | (with_reducible exact spec_wide.mono _ _ _ _ _)
      | (with_reducible exact LeO.refl _)
      | (with_reducible exact LeO.none _)
      | (with_reducible refine LeO.ite ?_ ?_)
      | (with_reducible refine LeO.bind ?_ (fun _ => ?_))
      | exact ih0 _ _ _ _
      | exact ih1 _ _ _ _ _ _ _
      | exact spec_wide.mono _ _ _ _ _
      | exact LeO.none _
      | refine LeO.ite ?_ ?_
      | refine LeO.bind ?_ (fun _ => ?_)
    · intro y0 y1 y2 y3 y4 y5 y6
      unfold spec_DecimalInt.l0
      repeat' first
      | (with_reducible exact ih0 _ _ _ _)
      | (with_reducible exact ih1 _ _ _ _ _ _ _)
      | (with_reducible exact spec_wide.mono _ _ _ _ _)
      | (with_reducible exact LeO.refl _)
      | (with_reducible exact LeO.none _)
      | (with_reducible refine LeO.ite ?_ ?_)
      | (with_reducible refine LeO.bind ?_ (fun _ => ?_))
      | exact ih0 _ _ _ _
      | exact ih1 _ _ _ _ _ _ _
      | exact spec_wide.mono _ _ _ _ _
      | exact LeO.none _
      | refine LeO.ite ?_ ?_
      | refine LeO.bind ?_ (fun _ => ?_)
theorem spec_DecimalInt.mono : ∀ a0 a1 a2 k, LeO (spec_DecimalInt.f k a0 a1 a2) (spec_DecimalInt.f (k + 1) a0 a1 a2) := by
  intro a0 a1 a2 k
  obtain ⟨ih0, ih1⟩ := spec_DecimalInt.mono_l k
  unfold spec_DecimalInt.f
  repeat' first
      | (with_reducible exact ih0 _ _ _ _)
      | (with_reducible exact ih1 _ _ _ _ _ _ _)
      | (with_reducible exact spec_wide.mono _ _ _ _ _)
      | (with_reducible exact LeO.refl _)
      | (with_reducible exact LeO.none _)
      | (with_reducible refine LeO.ite ?_ ?_)
      | (with_reducible refine LeO.bind ?_ (fun _ => ?_))
      | exact ih0 _ _ _ _
      | exact ih1 _ _ _ _ _ _ _
      | exact spec_wide.mono _ _ _ _ _
      | exact LeO.none _
      | refine LeO.ite ?_ ?_
      | refine LeO.bind ?_ (fun _ => ?_)
set_option maxHeartbeats 8000000 in
set_option maxRecDepth 100000 in
theorem spec_DecimalInt.calls (k : Nat) (a0_0 : Bool) (A0_1 : Option Addr) (c0_1 : Nat) (l0_1 : List Int) (a0_2 : Int) (r1 : Int) (r2 : Bool) (w : World) (hr0_1 : Kd.C (Kd.int .i64) w A0_1 l0_1.length l0_1) (hc0_1 : l0_1.length ≤ c0_1) (h : spec_DecimalInt.f k a0_0 l0_1 a0_2 = some (r1, r2)) :
    Calls Try.prog 25 #[.agg #[.bool a0_0, .slice A0_1 l0_1.length c0_1, .int .i64 a0_2]] w fun e w' => e = .returned (.tuple #[.int .i64 r1, .bool r2]) ∧ Below w.heap.size w w' := by
  have hu24 := Try.underlying24
  have HR0_1 := Aside0.mk hr0_1
  have HC0_1 := Aside0.mk hc0_1
  clear hr0_1 hc0_1
  have HB := Aside0.mk (Below.refl w.heap.size w)
  have H : (if (l0_1.length : Int) > 0 then (if a0_2 < 0 then (spec_DecimalInt.j0 k true a0_0 l0_1 a0_2) else (spec_DecimalInt.j0 k (decide ((wrap64 ((l0_1.length : Int) + a0_2)) > 19)) a0_0 l0_1 a0_2)) else (spec_DecimalInt.j0 k false a0_0 l0_1 a0_2)) = some (r1, r2) := h
  clear h
  have HC2 := Aside0.mk H
  clear H
  go_enter Try.func25, Try.ntmps25
  go_upto_region 1 with (first | ((with_reducible refine gate_dst (N := 1) rfl ?_); (try (refine gate_guard (by rfl) ?_; dsimp only)); refine box_event ?hg (N := 1) ?hd (cs := #[.bool a0_0, .slice A0_1 l0_1.length c0_1, .int .i64 a0_2]) (t := 24) ?hr ?_; (case hd => rfl); (case hg => rfl); (case hr => first | (go_simp; done) | (go_simp; rfl)); intro gb219 hg w3 hbox hb; have n0_ := Aside0.mk (below_step (by repeat (first | (with_reducible first | exact HB.out | apply below_alloc | apply pw_below_drewN | apply below_drew1) | exact HB.out)) hb); have n1_ := Aside0.mk (hbox); have n2_ := Aside0.mk ((by rw [hg]; exact (below_size (by repeat (first | (with_reducible first | exact HB.out | apply below_alloc | apply pw_below_drewN | apply below_drew1) | exact HB.out))) : w.heap.size ≤ gb219)); have n3_ := Aside0.mk ((by rw [hg]; exact (below_size (by repeat (first | (with_reducible first | exact HB.out | apply below_alloc | apply pw_below_drewN | apply below_drew1) | exact HB.out))) : w.heap.size ≤ gb219)); clear HB; have HB := n0_; have BK219 := n1_; have GW219 := n2_; have GE219 := n3_; clear n0_ n1_ n2_ n3_; clear hb hbox hg))
  (try simp only [Act.put, List.setIfInBounds_toArray, List.set_cons_zero, List.set_cons_succ])
  go_cut [24] (fun v24 wc => ∃ (kq : Nat) (x24_1 : Bool), v24 = .bool x24_1 ∧ Aside0 (spec_DecimalInt.j0 kq x24_1 a0_0 l0_1 a0_2 = some (r1, r2)) ∧ Aside0 (kq ≤ k) ∧ Aside0 (wc.heap[gb219]? = some (.cells #[.bool a0_0, (.slice A0_1 l0_1.length c0_1), .int .i64 a0_2] 24 (0, 0))) ∧ Aside0 (Below w.heap.size w wc))
  case first =>
    have H := HC2.out
    clear HC2
    by_cases c4 : (l0_1.length : Int) > 0
    · rw [if_pos c4] at H
      have c4b0 : decide (0 < (l0_1.length : Int)) = true := decide_eq_true c4
      have c4b1 : decide (0 < l0_1.length) = true := decide_eq_true (by omega)
      clear c4
      (first | rw [c4b0] | (simp only [i64_w, i32_w]; rw [c4b0]) | skip)
      by_cases c5 : a0_2 < 0
      · rw [if_pos c5] at H
        have c5b0 : decide (a0_2 < 0) = true := decide_eq_true c5
        clear c5
        have H' := Aside0.mk H
        clear H
        have hcz6_0 : w3.cell? ⟨gb219, 0, none⟩ = some (.bool a0_0) := (blk_cell BK219.out 0).trans rfl
        have hcz6_1 : w3.cell? ⟨gb219, 1, none⟩ = some (.slice A0_1 l0_1.length c0_1) := (blk_cell BK219.out 1).trans rfl
        have hcz6_2 : w3.cell? ⟨gb219, 2, none⟩ = some (.int .i64 a0_2) := (blk_cell BK219.out 2).trans rfl
        have hfz6_0 := blk_frozen BK219.out 0
        have hfz6_1 := blk_frozen BK219.out 1
        have hfz6_2 := blk_frozen BK219.out 2
        go_wp2
        go_meet
        case rel => exact ⟨_, (true), (by first | rfl | (simp; done) | (simp [*]; done)), H', ⟨by first | omega | exact Nat.le_refl _⟩, ⟨by (with_reducible repeat (first | refine blk_drewN ?_ _ | refine blk_drew ?_ | refine blk_alloc ?_ _)); exact BK219.out⟩, ⟨by repeat (first | (with_reducible first | exact HB.out | apply below_alloc | apply pw_below_drewN | apply below_drew1 | refine below_set ?_ GE219.out) | exact HB.out)⟩⟩
      · rw [if_neg c5] at H
        have c5b0 : decide (a0_2 < 0) = false := decide_eq_false c5
        clear c5
        have H' := Aside0.mk H
        clear H
        have hcz7_0 : w3.cell? ⟨gb219, 0, none⟩ = some (.bool a0_0) := (blk_cell BK219.out 0).trans rfl
        have hcz7_1 : w3.cell? ⟨gb219, 1, none⟩ = some (.slice A0_1 l0_1.length c0_1) := (blk_cell BK219.out 1).trans rfl
        have hcz7_2 : w3.cell? ⟨gb219, 2, none⟩ = some (.int .i64 a0_2) := (blk_cell BK219.out 2).trans rfl
        have hfz7_0 := blk_frozen BK219.out 0
        have hfz7_1 := blk_frozen BK219.out 1
        have hfz7_2 := blk_frozen BK219.out 2
        go_wp2
        go_meet
        case rel => exact ⟨_, (decide ((wrap64 ((l0_1.length : Int) + a0_2)) > 19)), (by first | rfl | (simp; done) | (simp [*]; done)), H', ⟨by first | omega | exact Nat.le_refl _⟩, ⟨by (with_reducible repeat (first | refine blk_drewN ?_ _ | refine blk_drew ?_ | refine blk_alloc ?_ _)); exact BK219.out⟩, ⟨by repeat (first | (with_reducible first | exact HB.out | apply below_alloc | apply pw_below_drewN | apply below_drew1 | refine below_set ?_ GE219.out) | exact HB.out)⟩⟩
    · rw [if_neg c4] at H
      have c4b0 : decide (0 < (l0_1.length : Int)) = false := decide_eq_false c4
      have c4b1 : decide (0 < l0_1.length) = false := decide_eq_false (by omega)
      clear c4
      (first | rw [c4b0] | (simp only [i64_w, i32_w]; rw [c4b0]) | skip)
      have H' := Aside0.mk H
      clear H
      have hcz8_0 : w3.cell? ⟨gb219, 0, none⟩ = some (.bool a0_0) := (blk_cell BK219.out 0).trans rfl
      have hcz8_1 : w3.cell? ⟨gb219, 1, none⟩ = some (.slice A0_1 l0_1.length c0_1) := (blk_cell BK219.out 1).trans rfl
      have hcz8_2 : w3.cell? ⟨gb219, 2, none⟩ = some (.int .i64 a0_2) := (blk_cell BK219.out 2).trans rfl
      have hfz8_0 := blk_frozen BK219.out 0
      have hfz8_1 := blk_frozen BK219.out 1
      have hfz8_2 := blk_frozen BK219.out 2
      go_wp2
      go_meet
      case rel => exact ⟨_, (false), (by first | rfl | (simp; done) | (simp [*]; done)), H', ⟨by first | omega | exact Nat.le_refl _⟩, ⟨by (with_reducible repeat (first | refine blk_drewN ?_ _ | refine blk_drew ?_ | refine blk_alloc ?_ _)); exact BK219.out⟩, ⟨by repeat (first | (with_reducible first | exact HB.out | apply below_alloc | apply pw_below_drewN | apply below_drew1 | refine below_set ?_ GE219.out) | exact HB.out)⟩⟩
  case rest =>
    clear HC2
    try clear c2
    try clear p2
    try clear c4
    try clear c4b0
    try clear c4b1
    try clear c5
    try clear c5b0
    try clear p6
    try clear hcz6_0
    try clear hcz6_1
    try clear hcz6_2
    try clear hcz7_0
    try clear hcz7_1
    try clear hcz7_2
    try clear hcz8_0
    try clear hcz8_1
    try clear hcz8_2
    try clear hfz6_0
    try clear hfz6_1
    try clear hfz6_2
    try clear hfz7_0
    try clear hfz7_1
    try clear hfz7_2
    try clear hfz8_0
    try clear hfz8_1
    try clear hfz8_2
    obtain ⟨kq, x24_1, rfl, HA, HJ1, BK219, HB⟩ := hcut
    cases kq with
    | zero => exact absurd HA.out (by simp [spec_DecimalInt.j0])
    | succ kj1 =>
      have H := HA.out
      clear HA
      simp only [spec_DecimalInt.j0] at H
      by_cases c9 : x24_1 = true
      · subst c9
        have H1 : (some (0, false)) = some (r1, r2) := by rw [if_pos rfl] at H; exact H
        clear H
        have H := H1
        clear H1
        simp only [Option.some.injEq, Prod.mk.injEq] at H
        obtain ⟨rfl, rfl⟩ := H
        go_wp2
        go_ret2
        exact ⟨by first | rfl | (simp [errW_none, errW_some] <;> rfl) | (simp [*, errW_none, errW_some] <;> rfl), by repeat (first | (with_reducible first | exact HB.out | apply below_alloc | apply pw_below_drewN | apply below_drew1 | refine below_set ?_ GE219.out) | exact HB.out)⟩
      · replace c9 := Bool.eq_false_iff.mpr c9
        subst c9
        have H1 : ((spec_wide.f kj1 a0_0 l0_1 a0_2 0).bind fun t220 => (spec_DecimalInt.l0 kj1 0 t220 (t220.length : Int) 0 a0_0 l0_1 a0_2)) = some (r1, r2) := by rw [if_neg (show ¬ (false = true) by decide)] at H; exact H
        clear H
        have H := H1
        clear H1
        replace H := Option.bind_eq_some_iff.mp H
        obtain ⟨t220, A100, H⟩ := H
        replace H : (spec_DecimalInt.l0 kj1 0 t220 (t220.length : Int) 0 a0_0 l0_1 a0_2) = some (r1, r2) := H
        have A10 := Aside0.mk A100
        clear A100
        have H' := Aside0.mk H
        clear H
        have hcz11_0 : wc.cell? ⟨gb219, 0, none⟩ = some (.bool a0_0) := (blk_cell BK219.out 0).trans rfl
        have hcz11_1 : wc.cell? ⟨gb219, 1, none⟩ = some (.slice A0_1 l0_1.length c0_1) := (blk_cell BK219.out 1).trans rfl
        have hcz11_2 : wc.cell? ⟨gb219, 2, none⟩ = some (.int .i64 a0_2) := (blk_cell BK219.out 2).trans rfl
        have hfz11_0 := blk_frozen BK219.out 0
        have hfz11_1 := blk_frozen BK219.out 1
        have hfz11_2 := blk_frozen BK219.out 2
        go_wp2_with (first | ((with_reducible refine gate_callee (f := 32) rfl ?_); refine goesL_ (some 26) rfl rfl Try.func32 (by kernel_rfl) rfl #[.agg #[.bool a0_0, .slice A0_1 l0_1.length c0_1, .int .i64 a0_2], .int .i64 0] rfl (by (try simp only [List.map_toArray, List.map_cons, List.map_nil]); first | done | rfl | (simp only [List.length_drop, List.length_take]; rfl)) ?_; (with_reducible refine (spec_wide.calls kj1 a0_0 _ _ l0_1 a0_2 0 t220 _ ?side1 ?side2 A10.out).mono ?_); (case side1 => repeat (first | exact (Kd.C_below HR0_1.out HB.out) | (with_reducible refine Kd.C_alloc ?_ _) | (with_reducible refine Kd.C_drewN ?_ _) | (with_reducible refine Kd.C_drew ?_))); (case side2 => exact HC0_1.out); rintro e w12 ⟨v221, rfl, ho0, hb⟩; refine ⟨_, rfl, ?_⟩; have n0_ := Aside0.mk (Kd.R_lower ho0 (below_size (by repeat (first | (with_reducible first | exact HB.out | apply below_alloc | apply pw_below_drewN | apply below_drew1 | refine below_set ?_ GE219.out) | exact HB.out)))); have n1_ := Aside0.mk (blk_below (g := gb219) (o := .cells #[.bool a0_0, .slice A0_1 l0_1.length c0_1, .int .i64 a0_2] 24 (0, 0)) (by (with_reducible repeat (first | refine blk_drewN ?_ _ | refine blk_drew ?_ | refine blk_alloc ?_ _)); exact BK219.out) hb); have n2_ := Aside0.mk (below_step (by repeat (first | (with_reducible first | exact HB.out | apply below_alloc | apply pw_below_drewN | apply below_drew1 | refine below_set ?_ GE219.out) | exact HB.out)) hb); clear BK219; clear HB; have HO222 := n0_; have BK219 := n1_; have HB := n2_; clear n0_ n1_ n2_; (try clear hb); (try clear hb2); (try clear hk); (try clear hi); (try clear ho0); obtain ⟨Ao13, co13, eo13⟩ := Kd.R_slice HO222.out; subst eo13))
        go_loopg [4, 28] kj1 (fun kq v4 v28 w' => ∃ (x4_2 : Int) (x28_2 : Int), v4 = .int .u64 x4_2 ∧ v28 = .int .i64 x28_2 ∧ Aside0 (spec_DecimalInt.l0 kq x4_2 t220 (t220.length : Int) x28_2 a0_0 l0_1 a0_2 = some (r1, r2)) ∧ Aside0 (kq ≤ kj1) ∧ Aside0 (Kd.R (Kd.int .i64) 3 w' w.heap.size (fun _ => True) (.slice Ao13 t220.length co13) t220) ∧ Aside0 (w'.heap[gb219]? = some (.cells #[.bool a0_0, (.slice A0_1 l0_1.length c0_1), .int .i64 a0_2] 24 (0, 0))) ∧ Aside0 (Below w.heap.size w w'))
        case atStart => exact ⟨(0), (0), (by first | rfl | (simp; done) | (simp [*]; done)), (by first | rfl | (simp; done) | (simp [*]; done)), H', ⟨Nat.le_refl _⟩, ⟨by (with_reducible repeat (first | apply Kd.R_alloc | apply Kd.R_drewN | apply Kd.R_drew)); exact HO222.out⟩, ⟨by (with_reducible repeat (first | refine blk_drewN ?_ _ | refine blk_drew ?_ | refine blk_alloc ?_ _)); exact BK219.out⟩, ⟨by repeat (first | (with_reducible first | exact HB.out | apply below_alloc | apply pw_below_drewN | apply below_drew1 | refine below_set ?_ GE219.out) | exact HB.out)⟩⟩
        case round =>
          clear H'
          try clear c2
          try clear p2
          try clear c3
          try clear c4
          try clear c4b0
          try clear c4b1
          try clear c5
          try clear c5b0
          try clear p6
          try clear c9
          try clear hcz11_0
          try clear hcz11_1
          try clear hcz11_2
          try clear hcz6_0
          try clear hcz6_1
          try clear hcz6_2
          try clear hcz7_0
          try clear hcz7_1
          try clear hcz7_2
          try clear hcz8_0
          try clear hcz8_1
          try clear hcz8_2
          try clear hfz11_0
          try clear hfz11_1
          try clear hfz11_2
          try clear hfz6_0
          try clear hfz6_1
          try clear hfz6_2
          try clear hfz7_0
          try clear hfz7_1
          try clear hfz7_2
          try clear hfz8_0
          try clear hfz8_1
          try clear hfz8_2
          try clear p2
          try clear p6
          obtain ⟨x4_2, x28_2, rfl, rfl, HA, HK2, HO_26, BK219, HB⟩ := hrel
          cases gk with
          | zero => exact absurd HA.out (by simp [spec_DecimalInt.l0])
          | succ k2 =>
            have H := HA.out
            clear HA
            simp only [spec_DecimalInt.l0] at H
            by_cases c14 : x28_2 < (t220.length : Int)
            · rw [if_pos c14] at H
              have c14b0 : decide (x28_2 < (t220.length : Int)) = true := decide_eq_true c14
              clear c14
              by_cases c15 : 0 ≤ x28_2
              · rw [if_pos c15] at H
                have c15b0 : decide (0 ≤ x28_2) = true := decide_eq_true c15
                clear c15
                by_cases c16 : x28_2 < (t220.length : Int)
                · rw [if_pos c16] at H
                  have c16b0 : decide (x28_2 < (t220.length : Int)) = true := decide_eq_true c16
                  clear c16
                  have H' := Aside0.mk H
                  clear H
                  have p223 : 0 ≤ (x28_2 : Int) := of_decide_eq_true (by first | (with_reducible assumption) | assumption)
                  have q223 : x28_2 < (t220.length : Int) := of_decide_eq_true (by first | (with_reducible assumption) | assumption)
                  obtain ⟨ad223, e223, hx223_0⟩ := Kd.at_int (Kd.R_reads' HO_26.out).2.2 x28_2 p223 q223
                  cases e223
                  replace p223 := eq_true p223
                  replace q223 := eq_true q223
                  go_wp2
                  go_roundg k2
                  case measure => have := HJ1.out; have := HK2.out; omega
                  case rel => exact ⟨(IntKind.u64.wrap ((IntKind.u64.wrap (10 * x4_2)) + (IntKind.u64.wrap (rd t220 x28_2)))), (wrap64 (x28_2 + 1)), (by first | rfl | (simp; done) | (simp [*]; done)), (by first | rfl | (simp; done) | (simp [*]; done)), H', ⟨by have := HJ1.out; have := HK2.out; omega⟩, ⟨by (with_reducible repeat (first | apply Kd.R_alloc | apply Kd.R_drewN | apply Kd.R_drew)); exact HO_26.out⟩, ⟨by (with_reducible repeat (first | refine blk_drewN ?_ _ | refine blk_drew ?_ | refine blk_alloc ?_ _)); exact BK219.out⟩, ⟨by repeat (first | (with_reducible first | exact HB.out | apply below_alloc | apply pw_below_drewN | apply below_drew1 | refine below_set ?_ GE219.out) | exact HB.out)⟩⟩
                · rw [if_neg c16] at H
                  exact absurd H (by simp)
              · rw [if_neg c15] at H
                exact absurd H (by simp)
            · rw [if_neg c14] at H
              have c14b0 : decide (x28_2 < (t220.length : Int)) = false := decide_eq_false c14
              clear c14
              by_cases c17 : a0_0 = true
              · subst c17
                have H1 : (some (wrap64 (IntKind.u64.wrap (-x4_2)), decide (x4_2 ≤ 9223372036854775808))) = some (r1, r2) := by rw [if_pos rfl] at H; exact H
                clear H
                have H := H1
                clear H1
                simp only [Option.some.injEq, Prod.mk.injEq] at H
                obtain ⟨rfl, rfl⟩ := H
                have hcz18_0 : wr.cell? ⟨gb219, 0, none⟩ = some (.bool true) := (blk_cell BK219.out 0).trans rfl
                have hcz18_1 : wr.cell? ⟨gb219, 1, none⟩ = some (.slice A0_1 l0_1.length c0_1) := (blk_cell BK219.out 1).trans rfl
                have hcz18_2 : wr.cell? ⟨gb219, 2, none⟩ = some (.int .i64 a0_2) := (blk_cell BK219.out 2).trans rfl
                have hfz18_0 := blk_frozen BK219.out 0
                have hfz18_1 := blk_frozen BK219.out 1
                have hfz18_2 := blk_frozen BK219.out 2
                go_wp2
                go_ret2
                exact ⟨by first | rfl | (simp [errW_none, errW_some] <;> rfl) | (simp [*, errW_none, errW_some] <;> rfl), by repeat (first | (with_reducible first | exact HB.out | apply below_alloc | apply pw_below_drewN | apply below_drew1 | refine below_set ?_ GE219.out) | exact HB.out)⟩
              · replace c17 := Bool.eq_false_iff.mpr c17
                subst c17
                have H1 : (some (wrap64 (x4_2), decide (x4_2 < 9223372036854775808))) = some (r1, r2) := by rw [if_neg (show ¬ (false = true) by decide)] at H; exact H
                clear H
                have H := H1
                clear H1
                simp only [Option.some.injEq, Prod.mk.injEq] at H
                obtain ⟨rfl, rfl⟩ := H
                have hcz19_0 : wr.cell? ⟨gb219, 0, none⟩ = some (.bool false) := (blk_cell BK219.out 0).trans rfl
                have hcz19_1 : wr.cell? ⟨gb219, 1, none⟩ = some (.slice A0_1 l0_1.length c0_1) := (blk_cell BK219.out 1).trans rfl
                have hcz19_2 : wr.cell? ⟨gb219, 2, none⟩ = some (.int .i64 a0_2) := (blk_cell BK219.out 2).trans rfl
                have hfz19_0 := blk_frozen BK219.out 0
                have hfz19_1 := blk_frozen BK219.out 1
                have hfz19_2 := blk_frozen BK219.out 2
                go_wp2
                go_ret2
                exact ⟨by first | rfl | (simp [errW_none, errW_some] <;> rfl) | (simp [*, errW_none, errW_some] <;> rfl), by repeat (first | (with_reducible first | exact HB.out | apply below_alloc | apply pw_below_drewN | apply below_drew1 | refine below_set ?_ GE219.out) | exact HB.out)⟩

/-! ### resource_int64Amount_Sign: function 47 -/
def resource_int64Amount_Sign.f (a0_0 : Int) (a0_1 : Int) : Option (Int) := if a0_0 = 0 then (some 0) else (if a0_0 > 0 then (some 1) else (some (-1)))
set_option maxHeartbeats 8000000 in
set_option maxRecDepth 100000 in
theorem resource_int64Amount_Sign.calls (a0_0 : Int) (a0_1 : Int) (r : Int) (w : World) (h : resource_int64Amount_Sign.f a0_0 a0_1 = some r) :
    Calls Try.prog 47 #[.agg #[.int .i64 a0_0, .int .i32 a0_1]] w fun e w' => e = .returned (.int .i64 r) ∧ Below w.heap.size w w' := by
  have hu65 := Try.underlying65
  have HB := Aside0.mk (Below.refl w.heap.size w)
  have H : (if a0_0 = 0 then (some 0) else (if a0_0 > 0 then (some 1) else (some (-1)))) = some r := h
  clear h
  by_cases c2 : a0_0 = 0
  · rw [if_pos c2] at H
    have c2b0 : (a0_0 == 0) = true := beq_iff_eq.mpr c2
    have c2b1 : (a0_0 != 0) = false := bne_eq_false_iff_eq.mpr c2
    clear c2
    obtain rfl := Option.some.inj H
    go_enter Try.func47, Try.ntmps47
    go_wp2_with (first | ((with_reducible refine gate_dst (N := 1) rfl ?_); refine box_event ?hg (N := 1) ?hd (cs := #[.int .i64 a0_0, .int .i32 a0_1]) (t := 65) ?hr ?_; (case hd => rfl); (case hg => rfl); (case hr => first | (go_simp; done) | (go_simp; rfl)); intro gb224 hg w3 hbox hb; have n0_ := Aside0.mk (below_step (by repeat (first | (with_reducible first | exact HB.out | apply below_alloc | apply pw_below_drewN | apply below_drew1) | exact HB.out)) hb); have n1_ := Aside0.mk (hbox); have n2_ := Aside0.mk ((by rw [hg]; exact (below_size (by repeat (first | (with_reducible first | exact HB.out | apply below_alloc | apply pw_below_drewN | apply below_drew1) | exact HB.out))) : w.heap.size ≤ gb224)); have n3_ := Aside0.mk ((by rw [hg]; exact (below_size (by repeat (first | (with_reducible first | exact HB.out | apply below_alloc | apply pw_below_drewN | apply below_drew1) | exact HB.out))) : w.heap.size ≤ gb224)); clear HB; have HB := n0_; have BK224 := n1_; have GW224 := n2_; have GE224 := n3_; clear n0_ n1_ n2_ n3_; clear hb hbox hg; have hcz4_0 : w3.cell? ⟨gb224, 0, none⟩ = some (.int .i64 a0_0) := (blk_cell BK224.out 0).trans rfl; have hcz4_1 : w3.cell? ⟨gb224, 1, none⟩ = some (.int .i32 a0_1) := (blk_cell BK224.out 1).trans rfl; have hfz4_0 := blk_frozen BK224.out 0; have hfz4_1 := blk_frozen BK224.out 1))
    go_ret
    exact ⟨by first | rfl | (simp [errW_none, errW_some] <;> rfl) | (simp [*, errW_none, errW_some] <;> rfl), by repeat (first | (with_reducible first | exact HB.out | apply below_alloc | apply pw_below_drewN | apply below_drew1 | refine below_set ?_ GE224.out) | exact HB.out)⟩
  · rw [if_neg c2] at H
    have c2b0 : (a0_0 == 0) = false := beq_eq_false_iff_ne.mpr c2
    have c2b1 : (a0_0 != 0) = true := bne_iff_ne.mpr c2
    by_cases c5 : a0_0 > 0
    · rw [if_pos c5] at H
      have c5b0 : decide (0 < a0_0) = true := decide_eq_true c5
      clear c5
      obtain rfl := Option.some.inj H
      go_enter Try.func47, Try.ntmps47
      go_wp2_with (first | ((with_reducible refine gate_dst (N := 1) rfl ?_); refine box_event ?hg (N := 1) ?hd (cs := #[.int .i64 a0_0, .int .i32 a0_1]) (t := 65) ?hr ?_; (case hd => rfl); (case hg => rfl); (case hr => first | (go_simp; done) | (go_simp; rfl)); intro gb224 hg w6 hbox hb; have n0_ := Aside0.mk (below_step (by repeat (first | (with_reducible first | exact HB.out | apply below_alloc | apply pw_below_drewN | apply below_drew1) | exact HB.out)) hb); have n1_ := Aside0.mk (hbox); have n2_ := Aside0.mk ((by rw [hg]; exact (below_size (by repeat (first | (with_reducible first | exact HB.out | apply below_alloc | apply pw_below_drewN | apply below_drew1) | exact HB.out))) : w.heap.size ≤ gb224)); have n3_ := Aside0.mk ((by rw [hg]; exact (below_size (by repeat (first | (with_reducible first | exact HB.out | apply below_alloc | apply pw_below_drewN | apply below_drew1) | exact HB.out))) : w.heap.size ≤ gb224)); clear HB; have HB := n0_; have BK224 := n1_; have GW224 := n2_; have GE224 := n3_; clear n0_ n1_ n2_ n3_; clear hb hbox hg; have hcz7_0 : w6.cell? ⟨gb224, 0, none⟩ = some (.int .i64 a0_0) := (blk_cell BK224.out 0).trans rfl; have hcz7_1 : w6.cell? ⟨gb224, 1, none⟩ = some (.int .i32 a0_1) := (blk_cell BK224.out 1).trans rfl; have hfz7_0 := blk_frozen BK224.out 0; have hfz7_1 := blk_frozen BK224.out 1))
      go_ret
      exact ⟨by first | rfl | (simp [errW_none, errW_some] <;> rfl) | (simp [*, errW_none, errW_some] <;> rfl), by repeat (first | (with_reducible first | exact HB.out | apply below_alloc | apply pw_below_drewN | apply below_drew1 | refine below_set ?_ GE224.out) | exact HB.out)⟩
    · rw [if_neg c5] at H
      have c5b0 : decide (0 < a0_0) = false := decide_eq_false c5
      clear c5
      obtain rfl := Option.some.inj H
      go_enter Try.func47, Try.ntmps47
      go_wp2_with (first | ((with_reducible refine gate_dst (N := 1) rfl ?_); refine box_event ?hg (N := 1) ?hd (cs := #[.int .i64 a0_0, .int .i32 a0_1]) (t := 65) ?hr ?_; (case hd => rfl); (case hg => rfl); (case hr => first | (go_simp; done) | (go_simp; rfl)); intro gb224 hg w8 hbox hb; have n0_ := Aside0.mk (below_step (by repeat (first | (with_reducible first | exact HB.out | apply below_alloc | apply pw_below_drewN | apply below_drew1) | exact HB.out)) hb); have n1_ := Aside0.mk (hbox); have n2_ := Aside0.mk ((by rw [hg]; exact (below_size (by repeat (first | (with_reducible first | exact HB.out | apply below_alloc | apply pw_below_drewN | apply below_drew1) | exact HB.out))) : w.heap.size ≤ gb224)); have n3_ := Aside0.mk ((by rw [hg]; exact (below_size (by repeat (first | (with_reducible first | exact HB.out | apply below_alloc | apply pw_below_drewN | apply below_drew1) | exact HB.out))) : w.heap.size ≤ gb224)); clear HB; have HB := n0_; have BK224 := n1_; have GW224 := n2_; have GE224 := n3_; clear n0_ n1_ n2_ n3_; clear hb hbox hg; have hcz9_0 : w8.cell? ⟨gb224, 0, none⟩ = some (.int .i64 a0_0) := (blk_cell BK224.out 0).trans rfl; have hcz9_1 : w8.cell? ⟨gb224, 1, none⟩ = some (.int .i32 a0_1) := (blk_cell BK224.out 1).trans rfl; have hfz9_0 := blk_frozen BK224.out 0; have hfz9_1 := blk_frozen BK224.out 1))
      go_ret
      exact ⟨by first | rfl | (simp [errW_none, errW_some] <;> rfl) | (simp [*, errW_none, errW_some] <;> rfl), by repeat (first | (with_reducible first | exact HB.out | apply below_alloc | apply pw_below_drewN | apply below_drew1 | refine below_set ?_ GE224.out) | exact HB.out)⟩

/-! ### impl_AmountSign: function 26 -/
def impl_AmountSign.f (a0_0 : Int) (a0_1 : Int) : Option (Int) := (resource_ZzAmount.f a0_0 (wrap32 (a0_1))).bind fun bt226 => ((resource_int64Amount_Sign.f bt226.1 bt226.2).bind fun t228 => (some t228))
set_option maxHeartbeats 8000000 in
set_option maxRecDepth 100000 in
theorem impl_AmountSign.calls (a0_0 : Int) (a0_1 : Int) (r : Int) (w : World) (h : impl_AmountSign.f a0_0 a0_1 = some r) :
    Calls Try.prog 26 #[.agg #[.int .i64 a0_0, .int .i64 a0_1]] w fun e w' => e = .returned (.int .i64 r) ∧ Below w.heap.size w w' := by
  have hu40 := Try.underlying40
  have HB := Aside0.mk (Below.refl w.heap.size w)
  have H : ((resource_ZzAmount.f a0_0 (wrap32 (a0_1))).bind fun bt226 => ((resource_int64Amount_Sign.f bt226.1 bt226.2).bind fun t228 => (some t228))) = some r := h
  clear h
  replace H := Option.bind_eq_some_iff.mp H
  obtain ⟨⟨t226, t227⟩, A20, H⟩ := H
  replace H : ((resource_int64Amount_Sign.f t226 t227).bind fun t228 => (some t228)) = some r := H
  have A2 := Aside0.mk A20
  clear A20
  replace H := Option.bind_eq_some_iff.mp H
  obtain ⟨t228, A30, H⟩ := H
  replace H : (some t228) = some r := H
  have A3 := Aside0.mk A30
  clear A30
  obtain rfl := Option.some.inj H
  go_enter Try.func26, Try.ntmps26
  go_wp2_with (first | ((with_reducible refine gate_dst (N := 1) rfl ?_); refine box_event ?hg (N := 1) ?hd (cs := #[.int .i64 a0_0, .int .i64 a0_1]) (t := 40) ?hr ?_; (case hd => rfl); (case hg => rfl); (case hr => first | (go_simp; done) | (go_simp; rfl)); intro gb225 hg w4 hbox hb; have n0_ := Aside0.mk (below_step (by repeat (first | (with_reducible first | exact HB.out | apply below_alloc | apply pw_below_drewN | apply below_drew1) | exact HB.out)) hb); have n1_ := Aside0.mk (hbox); have n2_ := Aside0.mk ((by rw [hg]; exact (below_size (by repeat (first | (with_reducible first | exact HB.out | apply below_alloc | apply pw_below_drewN | apply below_drew1) | exact HB.out))) : w.heap.size ≤ gb225)); have n3_ := Aside0.mk ((by rw [hg]; exact (below_size (by repeat (first | (with_reducible first | exact HB.out | apply below_alloc | apply pw_below_drewN | apply below_drew1) | exact HB.out))) : w.heap.size ≤ gb225)); clear HB; have HB := n0_; have BK225 := n1_; have GW225 := n2_; have GE225 := n3_; clear n0_ n1_ n2_ n3_; clear hb hbox hg; have hcz5_0 : w4.cell? ⟨gb225, 0, none⟩ = some (.int .i64 a0_0) := (blk_cell BK225.out 0).trans rfl; have hcz5_1 : w4.cell? ⟨gb225, 1, none⟩ = some (.int .i64 a0_1) := (blk_cell BK225.out 1).trans rfl; have hfz5_0 := blk_frozen BK225.out 0; have hfz5_1 := blk_frozen BK225.out 1) | ((with_reducible refine gate_callee (f := 41) rfl ?_); refine goesL_ (some 8) rfl rfl Try.func41 (by kernel_rfl) rfl #[.int .i64 a0_0, .int .i32 (wrap32 (a0_1))] rfl (by (try simp only [List.map_toArray, List.map_cons, List.map_nil]); first | done | rfl | (simp only [List.length_drop, List.length_take]; rfl)) ?_; (with_reducible refine (resource_ZzAmount.calls a0_0 (wrap32 (a0_1)) t226 t227 _ A2.out).mono ?_); rintro e w6 ⟨rfl, hb⟩; refine ⟨_, rfl, ?_⟩; have n0_ := Aside0.mk (blk_below (g := gb225) (o := .cells #[.int .i64 a0_0, .int .i64 a0_1] 40 (0, 0)) (by (with_reducible repeat (first | refine blk_drewN ?_ _ | refine blk_drew ?_ | refine blk_alloc ?_ _)); exact BK225.out) hb); have n1_ := Aside0.mk (below_step (by repeat (first | (with_reducible first | exact HB.out | apply below_alloc | apply pw_below_drewN | apply below_drew1 | refine below_set ?_ GE225.out) | exact HB.out)) hb); clear BK225; clear HB; have BK225 := n0_; have HB := n1_; clear n0_ n1_; (try clear hb); (try clear hb2); (try clear hk); (try clear hi)) | ((with_reducible refine gate_callee (f := 47) rfl ?_); refine goesL_ (some 9) rfl rfl Try.func47 (by kernel_rfl) rfl #[.agg #[.int .i64 t226, .int .i32 t227]] rfl (by (try simp only [List.map_toArray, List.map_cons, List.map_nil]); first | done | rfl | (simp only [List.length_drop, List.length_take]; rfl)) ?_; (with_reducible refine (resource_int64Amount_Sign.calls t226 t227 t228 _ A3.out).mono ?_); rintro e w7 ⟨rfl, hb⟩; refine ⟨_, rfl, ?_⟩; have n0_ := Aside0.mk (blk_below (g := gb225) (o := .cells #[.int .i64 a0_0, .int .i64 a0_1] 40 (0, 0)) (by (with_reducible repeat (first | refine blk_drewN ?_ _ | refine blk_drew ?_ | refine blk_alloc ?_ _)); exact BK225.out) hb); have n1_ := Aside0.mk (below_step (by repeat (first | (with_reducible first | exact HB.out | apply below_alloc | apply pw_below_drewN | apply below_drew1 | refine below_set ?_ GE225.out) | exact HB.out)) hb); clear BK225; clear HB; have BK225 := n0_; have HB := n1_; clear n0_ n1_; (try clear hb); (try clear hb2); (try clear hk); (try clear hi)))
  go_ret
  exact ⟨by first | rfl | (simp [errW_none, errW_some] <;> rfl) | (simp [*, errW_none, errW_some] <;> rfl), by repeat (first | (with_reducible first | exact HB.out | apply below_alloc | apply pw_below_drewN | apply below_drew1 | refine below_set ?_ GE225.out) | exact HB.out)⟩

end Go.Proofs.Ytpchihkegmihiaa.XFnAmountSign
