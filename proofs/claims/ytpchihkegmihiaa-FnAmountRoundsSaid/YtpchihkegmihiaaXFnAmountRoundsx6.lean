/- A text of this session: the functions of the law FnAmountRounds, by a program that calls the kit's print and lays this session's own contracts of single functions beside. -/
import Derived.Test.YtpchihkegmihiaaXFnAmountRoundsx0
import Derived.Test.YtpchihkegmihiaaXFnAmountRoundsx1
import Derived.Test.YtpchihkegmihiaaXFnAmountRoundsx4
import Derived.Test.YtpchihkegmihiaaXFnAmountRoundsx5
namespace Go.Proofs.Ytpchihkegmihiaa.XFnAmountRounds
open Go.RowKit Go.Proofs.YtpchihkegmihiaaW.PrintWords Go.Proofs.YtpchihkegmihiaaW.PrintLast Go.Proofs.YtpchihkegmihiaaW.PrintMore
attribute [local go_sem] max2_int min2_int max_two min_two max_three min_three max_four min_four   -- for this text's walks alone
set_option linter.unusedVariables false
set_option linter.unusedSimpArgs false

/-! ### laws_amountAwake: function 23 -/
def laws_amountAwake.f (k : Nat)  : Option (Bool) := (impl_AmountAdd.f k 2 3 5 2).bind fun bt191 => (if bt191.2.2 = true then ((spec_DecimalOf.f k 25 2).bind fun bt195 => ((laws_amountIs.f k bt191.1 bt191.2.1 bt195.1 bt195.2.1 bt195.2.2).bind fun t200 => (some t200))) else (some false))
theorem laws_amountAwake.mono : ∀ k, LeO (laws_amountAwake.f k ) (laws_amountAwake.f (k + 1) ) := by
  intro  k
  unfold laws_amountAwake.f
  repeat' first
      | (with_reducible exact impl_AmountAdd.mono _ _ _ _ _)
      | (with_reducible exact laws_amountIs.mono _ _ _ _ _ _)
      | (with_reducible exact spec_DecimalOf.mono _ _ _)
      | (with_reducible exact LeO.refl _)
      | (with_reducible exact LeO.none _)
      | (with_reducible refine LeO.ite ?_ ?_)
      | (with_reducible refine LeO.bind ?_ (fun _ => ?_))
      | exact impl_AmountAdd.mono _ _ _ _ _
      | exact laws_amountIs.mono _ _ _ _ _ _
      | exact spec_DecimalOf.mono _ _ _
      | exact LeO.none _
      | refine LeO.ite ?_ ?_
      | refine LeO.bind ?_ (fun _ => ?_)
set_option maxHeartbeats 8000000 in
set_option maxRecDepth 100000 in
theorem laws_amountAwake.calls (k : Nat)  (r : Bool) (w : World) (h : laws_amountAwake.f k  = some r) :
    Calls Try.prog 23 #[] w fun e w' => e = .returned (.bool r) ∧ Below w.heap.size w w' := by
  have hu40 := Try.underlying40
  have HB := Aside0.mk (Below.refl w.heap.size w)
  have H : ((impl_AmountAdd.f k 2 3 5 2).bind fun bt191 => (if bt191.2.2 = true then ((spec_DecimalOf.f k 25 2).bind fun bt195 => ((laws_amountIs.f k bt191.1 bt191.2.1 bt195.1 bt195.2.1 bt195.2.2).bind fun t200 => (some t200))) else (some false))) = some r := h
  clear h
  replace H := Option.bind_eq_some_iff.mp H
  obtain ⟨⟨t191, t192, t193⟩, A10, H⟩ := H
  replace H : (if t193 = true then ((spec_DecimalOf.f k 25 2).bind fun bt195 => ((laws_amountIs.f k t191 t192 bt195.1 bt195.2.1 bt195.2.2).bind fun t200 => (some t200))) else (some false)) = some r := H
  have A1 := Aside0.mk A10
  clear A10
  by_cases c2 : t193 = true
  · subst c2
    have H1 : ((spec_DecimalOf.f k 25 2).bind fun bt195 => ((laws_amountIs.f k t191 t192 bt195.1 bt195.2.1 bt195.2.2).bind fun t200 => (some t200))) = some r := by rw [if_pos rfl] at H; exact H
    clear H
    have H := H1
    clear H1
    replace H := Option.bind_eq_some_iff.mp H
    obtain ⟨⟨t195, t196, t199⟩, A30, H⟩ := H
    replace H : ((laws_amountIs.f k t191 t192 t195 t196 t199).bind fun t200 => (some t200)) = some r := H
    have A3 := Aside0.mk A30
    clear A30
    replace H := Option.bind_eq_some_iff.mp H
    obtain ⟨t200, A40, H⟩ := H
    replace H : (some t200) = some r := H
    have A4 := Aside0.mk A40
    clear A40
    obtain rfl := Option.some.inj H
    go_enter Try.func23, Try.ntmps23
    try go_wp2_with (first | ((with_reducible refine gate_callee (f := 22) rfl ?_); refine goesL_ (some 6) rfl rfl Try.func22 (by kernel_rfl) rfl #[.agg #[.int .i64 2, .int .i64 3], .agg #[.int .i64 5, .int .i64 2]] rfl (by (try simp only [List.map_toArray, List.map_cons, List.map_nil]); first | done | rfl | (simp only [List.length_drop, List.length_take]; rfl)) ?_; (with_reducible refine (impl_AmountAdd.calls k 2 3 5 2 t191 t192 true _ A1.out).mono ?_); rintro e w5 ⟨rfl, hb⟩; refine ⟨_, rfl, ?_⟩; have n0_ := Aside0.mk (below_step (by repeat (first | (with_reducible first | exact HB.out | apply below_alloc | apply pw_below_drewN | apply below_drew1) | exact HB.out)) hb); clear HB; have HB := n0_; clear n0_; (try clear hb); (try clear hb2); (try clear hk); (try clear hi)) | ((with_reducible refine gate_dst (N := 1) rfl ?_); refine box_event ?hg (N := 1) ?hd (cs := #[.int .i64 0, .int .i64 0]) (t := 40) ?hr ?_; (case hd => rfl); (case hg => rfl); (case hr => first | (go_simp; done) | (go_simp; rfl)); intro gb194 hg w6 hbox hb; have n0_ := Aside0.mk (below_step (by repeat (first | (with_reducible first | exact HB.out | apply below_alloc | apply pw_below_drewN | apply below_drew1) | exact HB.out)) hb); have n1_ := Aside0.mk (hbox); have n2_ := Aside0.mk ((by rw [hg]; exact (below_size (by repeat (first | (with_reducible first | exact HB.out | apply below_alloc | apply pw_below_drewN | apply below_drew1) | exact HB.out))) : w.heap.size ≤ gb194)); have n3_ := Aside0.mk ((by rw [hg]; exact (below_size (by repeat (first | (with_reducible first | exact HB.out | apply below_alloc | apply pw_below_drewN | apply below_drew1) | exact HB.out))) : w.heap.size ≤ gb194)); clear HB; have HB := n0_; have BK194 := n1_; have GW194 := n2_; have GE194 := n3_; clear n0_ n1_ n2_ n3_; clear hb hbox hg; have hcz7_0 : w6.cell? ⟨gb194, 0, none⟩ = some (.int .i64 0) := (blk_cell BK194.out 0).trans rfl; have hcz7_1 : w6.cell? ⟨gb194, 1, none⟩ = some (.int .i64 0) := (blk_cell BK194.out 1).trans rfl; have hfz7_0 := blk_frozen BK194.out 0; have hfz7_1 := blk_frozen BK194.out 1))
    have n0_ : Aside0 (((w6.setCell ⟨gb194, 0, none⟩ (.int .i64 t191)).setCell ⟨gb194, 1, none⟩ (.int .i64 t192)).heap[gb194]? = some (.cells #[.int .i64 t191, .int .i64 t192] 40 (0, 0))) := ⟨by (with_reducible repeat (first | refine blk_drewN ?_ _ | refine blk_drew ?_ | refine blk_alloc ?_ _)); refine blk_put (cs := #[.int .i64 t191, .int .i64 0]) ?_ 1 _ rfl; (with_reducible repeat (first | refine blk_drewN ?_ _ | refine blk_drew ?_ | refine blk_alloc ?_ _)); refine blk_put (cs := #[.int .i64 0, .int .i64 0]) ?_ 0 _ rfl; (with_reducible repeat (first | refine blk_drewN ?_ _ | refine blk_drew ?_ | refine blk_alloc ?_ _)); exact BK194.out⟩
    have n1_ : Aside0 (Below w.heap.size w ((w6.setCell ⟨gb194, 0, none⟩ (.int .i64 t191)).setCell ⟨gb194, 1, none⟩ (.int .i64 t192))) := ⟨by repeat (first | (with_reducible first | exact HB.out | apply below_alloc | apply pw_below_drewN | apply below_drew1 | refine below_set ?_ GE194.out) | exact HB.out)⟩
    (try clear BK194)
    (try clear HB)
    generalize ((w6.setCell ⟨gb194, 0, none⟩ (.int .i64 t191)).setCell ⟨gb194, 1, none⟩ (.int .i64 t192)) = w8 at n0_ n1_ ⊢
    have BK194 := n0_
    have HB := n1_
    clear n0_ n1_
    have n0_ := Aside0.mk (blk_drew BK194.out)
    have n1_ := Aside0.mk (below_drew1 HB.out)
    clear BK194
    clear HB
    have BK194 := n0_
    have HB := n1_
    clear n0_ n1_
    refine start_ (n := 7) (S := fun w' => w'.cell? ⟨gb194, 0, none⟩ = some (.int .i64 t191) ∧ w'.cell? ⟨gb194, 1, none⟩ = some (.int .i64 t192)) (ds := []) #[false, false, false, false, false, false, false] (by kernel_rfl) rfl rfl ⟨(blk_cell BK194.out 0).trans rfl, (blk_cell BK194.out 1).trans rfl⟩ (fun hHeld => ?_)
    generalize w8.drew = w9 at BK194 HB hHeld ⊢
    refine pure_ (i := 0) (N := some 9) (v := ?_) (a' := ?_) #[true, false, false, false, false, false, false] rfl rfl (by kernel_rfl) (fun _ _ _ h => h) (Or.inl ⟨by rfl, ?_⟩) ?_ ?_
    rotate_left
    · intro w'
      go_simp
      with_reducible rfl
    rotate_left
    · simp only [Act.put, List.setIfInBounds_toArray, List.set_cons_zero, List.set_cons_succ, i64_w, i32_w]
      rfl
    refine pure_ (i := 1) (N := some 10) (v := ?_) (a' := ?_) #[true, true, false, false, false, false, false] rfl rfl (by kernel_rfl) (fun _ _ _ h => h) (Or.inl ⟨by rfl, ?_⟩) ?_ ?_
    rotate_left
    · intro w'
      go_simp
      with_reducible rfl
    rotate_left
    · simp only [Act.put, List.setIfInBounds_toArray, List.set_cons_zero, List.set_cons_succ, i64_w, i32_w]
      rfl
    refine take_ (i := 2) (N := some 11) (v := ?_) (a' := ?_) #[true, true, true, false, false, false, false] rfl rfl (by kernel_rfl) (fun _ _ _ h => h) (Or.inl ⟨by rfl, ?_⟩) hHeld ?_ ?_
    rotate_left
    · rintro w' ⟨s0, s1⟩
      go_simp
      with_reducible rfl
    rotate_left
    · simp only [Act.put, List.setIfInBounds_toArray, List.set_cons_zero, List.set_cons_succ, i64_w, i32_w]
      rfl
    refine one_ (i := 3) (N := some 12) #[true, true, true, true, false, false, false] rfl rfl (by kernel_rfl) (by decide) (fun K hK => ?_)
    refine goes_ Try.func10 (by kernel_rfl) rfl #[.int .i64 25, .int .i64 2] (by rfl) rfl rfl (by (try simp only [List.map_toArray, List.map_cons, List.map_nil]); first | done | rfl | (simp only [List.length_drop, List.length_take]; rfl)) ?_
    with_reducible refine (spec_DecimalOf.calls k 25 2 t195 t196 t199 _ A3.out).mono ?_
    rintro e w10 ⟨v197, rfl, ho0, hb⟩
    refine ⟨_, rfl, ?_⟩
    have n0_ := Aside0.mk (Kd.R_lower ho0 (below_size (by repeat (first | (with_reducible first | exact HB.out | apply below_alloc | apply pw_below_drewN | apply below_drew1 | refine below_set ?_ GE194.out) | exact HB.out))))
    have n1_ := Aside0.mk (blk_below (g := gb194) (o := .cells #[.int .i64 t191, .int .i64 t192] 40 (0, 0)) (by (with_reducible repeat (first | refine blk_drewN ?_ _ | refine blk_drew ?_ | refine blk_alloc ?_ _)); exact BK194.out) hb)
    have n2_ := Aside0.mk (below_step (by repeat (first | (with_reducible first | exact HB.out | apply below_alloc | apply pw_below_drewN | apply below_drew1 | refine below_set ?_ GE194.out) | exact HB.out)) hb)
    clear BK194
    clear HB
    have HO198 := n0_
    have BK194 := n1_
    have HB := n2_
    clear n0_ n1_ n2_
    (try clear hb)
    (try clear hb2)
    (try clear hk)
    (try clear hi)
    (try clear ho0)
    obtain ⟨Ao11, co11, eo11⟩ := Kd.R_slice HO198.out
    (first | subst eo11 | (injection eo11 with f1_ f2_ f3_; have f4_ := f1_.symm; have f5_ := f3_.symm; clear f1_ f2_ f3_; subst f4_; subst f5_))
    refine hK.out _ _ ⟨(blk_cell BK194.out 0).trans rfl, (blk_cell BK194.out 1).trans rfl⟩ (fun hHeld => ?_)
    clear hK K
    refine norm_ (a' := ?_) ?_ ?_
    rotate_left
    · show Act.put _ (some 12) _ = _
      simp only [Act.put, List.setIfInBounds_toArray, List.set_cons_zero, List.set_cons_succ, i64_w, i32_w]
      rfl
    refine one_ (i := 4) (N := some 13) #[true, true, true, true, true, false, false] rfl rfl (by kernel_rfl) (by decide) (fun K hK => ?_)
    refine goes_ Try.func21 (by kernel_rfl) rfl #[.agg #[.int .i64 t191, .int .i64 t192], .agg #[.bool t195, .slice Ao11 t196.length co11, .int .i64 t199]] (by rfl) rfl rfl (by (try simp only [List.map_toArray, List.map_cons, List.map_nil]); first | done | rfl | (simp only [List.length_drop, List.length_take]; rfl)) ?_
    with_reducible refine (laws_amountIs.calls k t191 t192 t195 _ _ t196 t199 t200 _ ?side1 ?side2 A4.out).mono ?_
    (case side1 => repeat (first | exact (Kd.R_reads' HO198.out).2.2 | (with_reducible refine Kd.C_alloc ?_ _) | (with_reducible refine Kd.C_drewN ?_ _) | (with_reducible refine Kd.C_drew ?_)))
    (case side2 => exact (Kd.R_reads' HO198.out).2.1)
    rintro e w12 ⟨rfl, hb⟩
    refine ⟨_, rfl, ?_⟩
    have n0_ := Aside0.mk (Kd.R_below (by (with_reducible repeat (first | apply Kd.R_alloc | apply Kd.R_drewN | apply Kd.R_drew)); exact HO198.out) hb)
    have n1_ := Aside0.mk (blk_below (g := gb194) (o := .cells #[.int .i64 t191, .int .i64 t192] 40 (0, 0)) (by (with_reducible repeat (first | refine blk_drewN ?_ _ | refine blk_drew ?_ | refine blk_alloc ?_ _)); exact BK194.out) hb)
    have n2_ := Aside0.mk (below_step (by repeat (first | (with_reducible first | exact HB.out | apply below_alloc | apply pw_below_drewN | apply below_drew1 | refine below_set ?_ GE194.out) | exact HB.out)) hb)
    clear HO198
    clear BK194
    clear HB
    have HO198 := n0_
    have BK194 := n1_
    have HB := n2_
    clear n0_ n1_ n2_
    (try clear hb)
    (try clear hb2)
    (try clear hk)
    (try clear hi)
    refine hK.out _ _ ⟨(blk_cell BK194.out 0).trans rfl, (blk_cell BK194.out 1).trans rfl⟩ (fun hHeld => ?_)
    clear hK K
    refine norm_ (a' := ?_) ?_ ?_
    rotate_left
    · show Act.put _ (some 13) _ = _
      simp only [Act.put, List.setIfInBounds_toArray, List.set_cons_zero, List.set_cons_succ, i64_w, i32_w]
      rfl
    refine pure_ (i := 5) (N := some 14) (v := ?_) (a' := ?_) #[true, true, true, true, true, true, false] rfl rfl (by kernel_rfl) (fun _ _ _ h => h) (Or.inl ⟨by rfl, ?_⟩) ?_ ?_
    rotate_left
    · intro w'
      go_simp
      with_reducible rfl
    rotate_left
    · simp only [Act.put, List.setIfInBounds_toArray, List.set_cons_zero, List.set_cons_succ, i64_w, i32_w]
      rfl
    refine pure_ (i := 6) (N := some 0) (v := ?_) (a' := ?_) #[true, true, true, true, true, true, true] rfl rfl (by kernel_rfl) (fun _ _ _ h => h) (Or.inl ⟨by rfl, ?_⟩) ?_ ?_
    rotate_left
    · intro w'
      go_simp
      with_reducible rfl
    rotate_left
    · simp only [Act.put, List.setIfInBounds_toArray, List.set_cons_zero, List.set_cons_succ, i64_w, i32_w]
      rfl
    refine done_ (by kernel_rfl) ?_
    try go_wp2
    go_ret
    exact ⟨by first | rfl | (simp [errW_none, errW_some] <;> rfl) | (simp [*, errW_none, errW_some] <;> rfl), by repeat (first | (with_reducible first | exact HB.out | apply below_alloc | apply pw_below_drewN | apply below_drew1 | refine below_set ?_ GE194.out) | exact HB.out)⟩
  · replace c2 := Bool.eq_false_iff.mpr c2
    subst c2
    have H1 : (some false) = some r := by rw [if_neg (show ¬ (false = true) by decide)] at H; exact H
    clear H
    have H := H1
    clear H1
    obtain rfl := Option.some.inj H
    go_enter Try.func23, Try.ntmps23
    try go_wp2_with (first | ((with_reducible refine gate_callee (f := 22) rfl ?_); refine goesL_ (some 6) rfl rfl Try.func22 (by kernel_rfl) rfl #[.agg #[.int .i64 2, .int .i64 3], .agg #[.int .i64 5, .int .i64 2]] rfl (by (try simp only [List.map_toArray, List.map_cons, List.map_nil]); first | done | rfl | (simp only [List.length_drop, List.length_take]; rfl)) ?_; (with_reducible refine (impl_AmountAdd.calls k 2 3 5 2 t191 t192 false _ A1.out).mono ?_); rintro e w13 ⟨rfl, hb⟩; refine ⟨_, rfl, ?_⟩; have n0_ := Aside0.mk (below_step (by repeat (first | (with_reducible first | exact HB.out | apply below_alloc | apply pw_below_drewN | apply below_drew1) | exact HB.out)) hb); clear HB; have HB := n0_; clear n0_; (try clear hb); (try clear hb2); (try clear hk); (try clear hi)) | ((with_reducible refine gate_dst (N := 1) rfl ?_); refine box_event ?hg (N := 1) ?hd (cs := #[.int .i64 0, .int .i64 0]) (t := 40) ?hr ?_; (case hd => rfl); (case hg => rfl); (case hr => first | (go_simp; done) | (go_simp; rfl)); intro gb194 hg w14 hbox hb; have n0_ := Aside0.mk (below_step (by repeat (first | (with_reducible first | exact HB.out | apply below_alloc | apply pw_below_drewN | apply below_drew1) | exact HB.out)) hb); have n1_ := Aside0.mk (hbox); have n2_ := Aside0.mk ((by rw [hg]; exact (below_size (by repeat (first | (with_reducible first | exact HB.out | apply below_alloc | apply pw_below_drewN | apply below_drew1) | exact HB.out))) : w.heap.size ≤ gb194)); have n3_ := Aside0.mk ((by rw [hg]; exact (below_size (by repeat (first | (with_reducible first | exact HB.out | apply below_alloc | apply pw_below_drewN | apply below_drew1) | exact HB.out))) : w.heap.size ≤ gb194)); clear HB; have HB := n0_; have BK194 := n1_; have GW194 := n2_; have GE194 := n3_; clear n0_ n1_ n2_ n3_; clear hb hbox hg; have hcz15_0 : w14.cell? ⟨gb194, 0, none⟩ = some (.int .i64 0) := (blk_cell BK194.out 0).trans rfl; have hcz15_1 : w14.cell? ⟨gb194, 1, none⟩ = some (.int .i64 0) := (blk_cell BK194.out 1).trans rfl; have hfz15_0 := blk_frozen BK194.out 0; have hfz15_1 := blk_frozen BK194.out 1))
    have n0_ : Aside0 (((w14.setCell ⟨gb194, 0, none⟩ (.int .i64 t191)).setCell ⟨gb194, 1, none⟩ (.int .i64 t192)).heap[gb194]? = some (.cells #[.int .i64 t191, .int .i64 t192] 40 (0, 0))) := ⟨by (with_reducible repeat (first | refine blk_drewN ?_ _ | refine blk_drew ?_ | refine blk_alloc ?_ _)); refine blk_put (cs := #[.int .i64 t191, .int .i64 0]) ?_ 1 _ rfl; (with_reducible repeat (first | refine blk_drewN ?_ _ | refine blk_drew ?_ | refine blk_alloc ?_ _)); refine blk_put (cs := #[.int .i64 0, .int .i64 0]) ?_ 0 _ rfl; (with_reducible repeat (first | refine blk_drewN ?_ _ | refine blk_drew ?_ | refine blk_alloc ?_ _)); exact BK194.out⟩
    have n1_ : Aside0 (Below w.heap.size w ((w14.setCell ⟨gb194, 0, none⟩ (.int .i64 t191)).setCell ⟨gb194, 1, none⟩ (.int .i64 t192))) := ⟨by repeat (first | (with_reducible first | exact HB.out | apply below_alloc | apply pw_below_drewN | apply below_drew1 | refine below_set ?_ GE194.out) | exact HB.out)⟩
    (try clear BK194)
    (try clear HB)
    generalize ((w14.setCell ⟨gb194, 0, none⟩ (.int .i64 t191)).setCell ⟨gb194, 1, none⟩ (.int .i64 t192)) = w16 at n0_ n1_ ⊢
    have BK194 := n0_
    have HB := n1_
    clear n0_ n1_
    have n0_ := Aside0.mk (blk_drew BK194.out)
    have n1_ := Aside0.mk (below_drew1 HB.out)
    clear BK194
    clear HB
    have BK194 := n0_
    have HB := n1_
    clear n0_ n1_
    refine start_ (n := 7) (S := fun w' => True) (ds := []) #[false, false, false, false, false, false, false] (by kernel_rfl) rfl rfl trivial (fun hHeld => ?_)
    generalize w16.drew = w17 at BK194 HB hHeld ⊢
    refine pure_ (i := 0) (N := some 9) (v := ?_) (a' := ?_) #[true, false, false, false, false, false, false] rfl rfl (by kernel_rfl) (fun _ _ _ h => h) (Or.inl ⟨by rfl, ?_⟩) ?_ ?_
    rotate_left
    · intro w'
      go_simp
      with_reducible rfl
    rotate_left
    · simp only [Act.put, List.setIfInBounds_toArray, List.set_cons_zero, List.set_cons_succ, i64_w, i32_w]
      rfl
    refine pure_ (i := 1) (N := some 10) (v := ?_) (a' := ?_) #[true, true, false, false, false, false, false] rfl rfl (by kernel_rfl) (fun _ _ _ h => h) (Or.inl ⟨by rfl, ?_⟩) ?_ ?_
    rotate_left
    · intro w'
      go_simp
      with_reducible rfl
    rotate_left
    · simp only [Act.put, List.setIfInBounds_toArray, List.set_cons_zero, List.set_cons_succ, i64_w, i32_w]
      rfl
    refine pure_ (i := 2) (N := some 11) (v := undef) (a' := ?_) #[true, true, true, false, false, false, false] rfl rfl (by kernel_rfl) (fun _ _ _ h => h) (Or.inr ⟨by rfl, rfl⟩) ?_ ?_
    rotate_left
    · simp only [Act.put, List.setIfInBounds_toArray, List.set_cons_zero, List.set_cons_succ, i64_w, i32_w]
      rfl
    refine pure_ (i := 3) (N := some 12) (v := undef) (a' := ?_) #[true, true, true, true, false, false, false] rfl rfl (by kernel_rfl) (fun _ _ _ h => h) (Or.inr ⟨by rfl, rfl⟩) ?_ ?_
    rotate_left
    · simp only [Act.put, List.setIfInBounds_toArray, List.set_cons_zero, List.set_cons_succ, i64_w, i32_w]
      rfl
    refine pure_ (i := 4) (N := some 13) (v := undef) (a' := ?_) #[true, true, true, true, true, false, false] rfl rfl (by kernel_rfl) (fun _ _ _ h => h) (Or.inr ⟨by rfl, rfl⟩) ?_ ?_
    rotate_left
    · simp only [Act.put, List.setIfInBounds_toArray, List.set_cons_zero, List.set_cons_succ, i64_w, i32_w]
      rfl
    refine pure_ (i := 5) (N := some 14) (v := ?_) (a' := ?_) #[true, true, true, true, true, true, false] rfl rfl (by kernel_rfl) (fun _ _ _ h => h) (Or.inl ⟨by rfl, ?_⟩) ?_ ?_
    rotate_left
    · intro w'
      go_simp
      with_reducible rfl
    rotate_left
    · simp only [Act.put, List.setIfInBounds_toArray, List.set_cons_zero, List.set_cons_succ, i64_w, i32_w]
      rfl
    refine pure_ (i := 6) (N := some 0) (v := ?_) (a' := ?_) #[true, true, true, true, true, true, true] rfl rfl (by kernel_rfl) (fun _ _ _ h => h) (Or.inl ⟨by rfl, ?_⟩) ?_ ?_
    rotate_left
    · intro w'
      go_simp
      with_reducible rfl
    rotate_left
    · simp only [Act.put, List.setIfInBounds_toArray, List.set_cons_zero, List.set_cons_succ, i64_w, i32_w]
      rfl
    refine done_ (by kernel_rfl) ?_
    try go_wp2
    go_ret
    exact ⟨by first | rfl | (simp [errW_none, errW_some] <;> rfl) | (simp [*, errW_none, errW_some] <;> rfl), by repeat (first | (with_reducible first | exact HB.out | apply below_alloc | apply pw_below_drewN | apply below_drew1 | refine below_set ?_ GE194.out) | exact HB.out)⟩

/-! ### resource_negativeScaleInt64: function 57 -/
mutual
def resource_negativeScaleInt64.l0 : Nat → Int → Int → Int → Bool → Int → Option (Int × Bool)
  | 0, _, _, _, _, _ => none
  | k + 1, x0, x1, x6, x7, x8 => if x8 < x1 then (if x7 = true then (resource_negativeScaleInt64.j1 k x0 x1 x6 x7 x8 false) else (resource_negativeScaleInt64.j1 k x0 x1 x6 x7 x8 ((Int.tmod x6 10) != 0))) else (if x7 = true then (if x0 > 0 then (some (wrap64 (x6 + 1), !x7)) else (some (wrap64 (x6 - 1), !x7))) else (some (x6, !x7)))
def resource_negativeScaleInt64.j1 : Nat → Int → Int → Int → Bool → Int → Bool → Option (Int × Bool)
  | 0, _, _, _, _, _, _ => none
  | k + 1, x0, x1, x6, x7, x8, x24 => if x24 = true then (resource_negativeScaleInt64.j2 k x0 x1 x6 true x8) else (resource_negativeScaleInt64.j2 k x0 x1 x6 x7 x8)
def resource_negativeScaleInt64.j2 : Nat → Int → Int → Int → Bool → Int → Option (Int × Bool)
  | 0, _, _, _, _, _ => none
  | k + 1, x0, x1, x6, x7, x8 => if (wrap64 (Int.tdiv x6 10)) = 0 then (if x7 = true then (if x0 > 0 then (some (1, false)) else (some ((-1), false))) else (some (0, true))) else (resource_negativeScaleInt64.l0 k x0 x1 (wrap64 (Int.tdiv x6 10)) x7 (wrap32 (x8 + 1)))
end
def resource_negativeScaleInt64.f (k : Nat) (a0 : Int) (a1 : Int) : Option (Int × Bool) := if a1 = 0 then (some (a0, true)) else (resource_negativeScaleInt64.l0 k a0 a1 a0 false 0)
theorem resource_negativeScaleInt64.mono_l : ∀ k, (∀ y0 y1 y2 y3 y4, LeO (resource_negativeScaleInt64.l0 k y0 y1 y2 y3 y4) (resource_negativeScaleInt64.l0 (k + 1) y0 y1 y2 y3 y4)) ∧ (∀ y0 y1 y2 y3 y4 y5, LeO (resource_negativeScaleInt64.j1 k y0 y1 y2 y3 y4 y5) (resource_negativeScaleInt64.j1 (k + 1) y0 y1 y2 y3 y4 y5)) ∧ (∀ y0 y1 y2 y3 y4, LeO (resource_negativeScaleInt64.j2 k y0 y1 y2 y3 y4) (resource_negativeScaleInt64.j2 (k + 1) y0 y1 y2 y3 y4))
  | 0 => ⟨fun _ _ _ _ _ r h => by simp [resource_negativeScaleInt64.l0] at h, fun _ _ _ _ _ _ r h => by simp [resource_negativeScaleInt64.j1] at h, fun _ _ _ _ _ r h => by simp [resource_negativeScaleInt64.j2] at h⟩
  | k + 1 => by
    obtain ⟨ih0, ih1, ih2⟩ := resource_negativeScaleInt64.mono_l k
    refine ⟨?_, ?_, ?_⟩
    · intro y0 y1 y2 y3 y4
      unfold resource_negativeScaleInt64.l0
      repeat' first
      | (with_reducible exact ih0 _ _ _ _ _)
      | (with_reducible exact ih1 _ _ _ _ _ _)
      | (with_reducible exact ih2 _ _ _ _ _)
      | (with_reducible exact LeO.refl _)
      | (with_reducible exact LeO.none _)
      | (with_reducible refine LeO.ite ?_ ?_)
      | (with_reducible refine LeO.bind ?_ (fun _ => ?_))
      | exact ih0 _ _ _ _ _
      | exact ih1 _ _ _ _ _ _
      | exact ih2 _ _ _ _ _
      | exact LeO.none _
      | refine LeO.ite ?_ ?_
      | refine LeO.bind ?_ (fun _ => ?_)
    · intro y0 y1 y2 y3 y4 y5
      unfold resource_negativeScaleInt64.j1
      repeat' first
      | (with_reducible exact ih0 _ _ _ _ _)
      | (with_reducible exact ih1 _ _ _ _ _ _)
      | (with_reducible exact ih2 _ _ _ _ _)
      | (with_reducible exact LeO.refl _)
      | (with_reducible exact LeO.none _)
      | (with_reducible refine LeO.ite ?_ ?_)
      | (with_reducible refine LeO.bind ?_ (fun _ => ?_))
      | exact ih0 _ _ _ _ _
      | exact ih1 _ _ _ _ _ _
      | exact ih2 _ _ _ _ _
      | exact LeO.none _
      | refine LeO.ite ?_ ?_
      | refine LeO.bind ?_ (fun _ => ?_)
    · intro y0 y1 y2 y3 y4
      unfold resource_negativeScaleInt64.j2
      repeat' first
      | (with_reducible exact ih0 _ _ _ _ _)
      | (with_reducible exact ih1 _ _ _ _ _ _)
      | (with_reducible exact ih2 _ _ _ _ _)
      | (with_reducible exact LeO.refl _)
      | (with_reducible exact LeO.none _)
      | (with_reducible refine LeO.ite ?_ ?_)
      | (with_reducible refine LeO.bind ?_ (fun _ => ?_))
      | exact ih0 _ _ _ _ _
      | exact ih1 _ _ _ _ _ _
      | exact ih2 _ _ _ _ _
      | exact LeO.none _
      | refine LeO.ite ?_ ?_
      | refine LeO.bind ?_ (fun _ => ?_)
theorem resource_negativeScaleInt64.mono : ∀ a0 a1 k, LeO (resource_negativeScaleInt64.f k a0 a1) (resource_negativeScaleInt64.f (k + 1) a0 a1) := by
  intro a0 a1 k
  obtain ⟨ih0, ih1, ih2⟩ := resource_negativeScaleInt64.mono_l k
  unfold resource_negativeScaleInt64.f
  repeat' first
      | (with_reducible exact ih0 _ _ _ _ _)
      | (with_reducible exact ih1 _ _ _ _ _ _)
      | (with_reducible exact ih2 _ _ _ _ _)
      | (with_reducible exact LeO.refl _)
      | (with_reducible exact LeO.none _)
      | (with_reducible refine LeO.ite ?_ ?_)
      | (with_reducible refine LeO.bind ?_ (fun _ => ?_))
      | exact ih0 _ _ _ _ _
      | exact ih1 _ _ _ _ _ _
      | exact ih2 _ _ _ _ _
      | exact LeO.none _
      | refine LeO.ite ?_ ?_
      | refine LeO.bind ?_ (fun _ => ?_)
set_option maxHeartbeats 8000000 in
set_option maxRecDepth 100000 in
theorem resource_negativeScaleInt64.calls (k : Nat) (a0 : Int) (a1 : Int) (r1 : Int) (r2 : Bool) (w : World) (h : resource_negativeScaleInt64.f k a0 a1 = some (r1, r2)) :
    Calls Try.prog 57 #[.int .i64 a0, .int .i32 a1] w fun e w' => e = .returned (.tuple #[.int .i64 r1, .bool r2]) ∧ Drawn0 w w' := by
  have H : (if a1 = 0 then (some (a0, true)) else (resource_negativeScaleInt64.l0 k a0 a1 a0 false 0)) = some (r1, r2) := h
  clear h
  by_cases c3 : a1 = 0
  · rw [if_pos c3] at H
    have c3b0 : (a1 == 0) = true := beq_iff_eq.mpr c3
    have c3b1 : (a1 != 0) = false := bne_eq_false_iff_eq.mpr c3
    clear c3
    simp only [Option.some.injEq, Prod.mk.injEq] at H
    obtain ⟨rfl, rfl⟩ := H
    go_enter Try.func57, Try.ntmps57
    go_wp2
    go_ret2
    exact ⟨by first | rfl | (simp; done) | (simp [*]; done), by repeat (first | exact Drawn0.refl _ | apply Drawn0.step)⟩
  · rw [if_neg c3] at H
    have c3b0 : (a1 == 0) = false := beq_eq_false_iff_ne.mpr c3
    have c3b1 : (a1 != 0) = true := bne_iff_ne.mpr c3
    have H' := Aside0.mk H
    clear H
    go_enter Try.func57, Try.ntmps57
    go_wp2
    go_loopg [6, 7, 8] k (fun kq v6 v7 v8 w' => ∃ (x6_1 : Int) (x7_1 : Bool) (x8_1 : Int), v6 = .int .i64 x6_1 ∧ v7 = .bool x7_1 ∧ v8 = .int .i32 x8_1 ∧ Aside0 (resource_negativeScaleInt64.l0 kq a0 a1 x6_1 x7_1 x8_1 = some (r1, r2)) ∧ Aside0 (kq ≤ k) ∧ Drawn0 w w')
    case atStart => exact ⟨(a0), (false), (0), (by first | rfl | (simp; done) | (simp [*]; done)), (by first | rfl | (simp; done) | (simp [*]; done)), (by first | rfl | (simp; done) | (simp [*]; done)), H', ⟨Nat.le_refl _⟩, by repeat (first | exact Drawn0.refl _ | apply Drawn0.step)⟩
    case round =>
      clear H'
      try clear p2
      try clear c3
      try clear c3b0
      try clear c3b1
      obtain ⟨x6_1, x7_1, x8_1, rfl, rfl, rfl, HA, HK1, ⟨m1, rfl⟩⟩ := hrel
      cases gk with
      | zero => exact absurd HA.out (by simp [resource_negativeScaleInt64.l0])
      | succ k1 =>
        have H := HA.out
        clear HA
        simp only [resource_negativeScaleInt64.l0] at H
        by_cases c4 : x8_1 < a1
        · rw [if_pos c4] at H
          have c4b0 : decide (x8_1 < a1) = true := decide_eq_true c4
          clear c4
          have HC5 := Aside0.mk H
          clear H
          go_upto_region 8 with (fail)
          go_cut [24] (fun v24 wc => ∃ (kq : Nat) (x24_4 : Bool), v24 = .bool x24_4 ∧ Aside0 (resource_negativeScaleInt64.j1 kq a0 a1 x6_1 x7_1 x8_1 x24_4 = some (r1, r2)) ∧ Aside0 (kq ≤ k1) ∧ Drawn0 w wc)
          case first =>
            have H := HC5.out
            clear HC5
            by_cases c6 : x7_1 = true
            · subst c6
              have H1 : (resource_negativeScaleInt64.j1 k1 a0 a1 x6_1 true x8_1 false) = some (r1, r2) := by rw [if_pos rfl] at H; exact H
              clear H
              have H := H1
              clear H1
              have H' := Aside0.mk H
              clear H
              go_wp2
              go_meet
              case rel => exact ⟨_, (false), (by first | rfl | (simp; done) | (simp [*]; done)), H', ⟨by have := HK1.out; first | omega | exact Nat.le_refl _⟩, by repeat (first | exact Drawn0.refl _ | apply Drawn0.step)⟩
            · replace c6 := Bool.eq_false_iff.mpr c6
              subst c6
              have H1 : (resource_negativeScaleInt64.j1 k1 a0 a1 x6_1 false x8_1 ((Int.tmod x6_1 10) != 0)) = some (r1, r2) := by rw [if_neg (show ¬ (false = true) by decide)] at H; exact H
              clear H
              have H := H1
              clear H1
              have H' := Aside0.mk H
              clear H
              go_wp2
              go_meet
              case rel => exact ⟨_, (((Int.tmod x6_1 10) != 0)), (by first | rfl | (simp; done) | (simp [*]; done)), H', ⟨by have := HK1.out; first | omega | exact Nat.le_refl _⟩, by repeat (first | exact Drawn0.refl _ | apply Drawn0.step)⟩
          case rest =>
            clear HC5
            try clear p2
            try clear c3
            try clear c3b0
            try clear c3b1
            try clear c4
            try clear c4b0
            try clear c5
            try clear c6
            try clear p2
            obtain ⟨kq, x24_4, rfl, HA, HJ4, ⟨mc4, rfl⟩⟩ := hcut
            cases kq with
            | zero => exact absurd HA.out (by simp [resource_negativeScaleInt64.j1])
            | succ kj4 =>
              have H := HA.out
              clear HA
              simp only [resource_negativeScaleInt64.j1] at H
              have HC7 := Aside0.mk H
              clear H
              go_upto_if 24 with (fail)
              go_cut [7] (fun v7 wc => ∃ (kq : Nat) (x7_6 : Bool), v7 = .bool x7_6 ∧ Aside0 (resource_negativeScaleInt64.j2 kq a0 a1 x6_1 x7_6 x8_1 = some (r1, r2)) ∧ Aside0 (kq ≤ kj4) ∧ Drawn0 w wc)
              case first =>
                have H := HC7.out
                clear HC7
                by_cases c8 : x24_4 = true
                · subst c8
                  have H1 : (resource_negativeScaleInt64.j2 kj4 a0 a1 x6_1 true x8_1) = some (r1, r2) := by rw [if_pos rfl] at H; exact H
                  clear H
                  have H := H1
                  clear H1
                  have H' := Aside0.mk H
                  clear H
                  go_wp2
                  go_meet
                  case rel => exact ⟨_, (true), (by first | rfl | (simp; done) | (simp [*]; done)), H', ⟨by have := HK1.out; have := HJ4.out; first | omega | exact Nat.le_refl _⟩, by repeat (first | exact Drawn0.refl _ | apply Drawn0.step)⟩
                · replace c8 := Bool.eq_false_iff.mpr c8
                  subst c8
                  have H1 : (resource_negativeScaleInt64.j2 kj4 a0 a1 x6_1 x7_1 x8_1) = some (r1, r2) := by rw [if_neg (show ¬ (false = true) by decide)] at H; exact H
                  clear H
                  have H := H1
                  clear H1
                  have H' := Aside0.mk H
                  clear H
                  go_wp2
                  go_meet
                  case rel => exact ⟨_, (x7_1), (by first | rfl | (simp; done) | (simp [*]; done)), H', ⟨by have := HK1.out; have := HJ4.out; first | omega | exact Nat.le_refl _⟩, by repeat (first | exact Drawn0.refl _ | apply Drawn0.step)⟩
              case rest =>
                clear HC7
                try clear p2
                try clear c3
                try clear c3b0
                try clear c3b1
                try clear c4
                try clear c4b0
                try clear c5
                try clear c6
                try clear c8
                try clear p2
                obtain ⟨kq, x7_6, rfl, HA, HJ6, ⟨mc6, rfl⟩⟩ := hcut
                cases kq with
                | zero => exact absurd HA.out (by simp [resource_negativeScaleInt64.j2])
                | succ kj6 =>
                  have H := HA.out
                  clear HA
                  simp only [resource_negativeScaleInt64.j2] at H
                  by_cases c9 : (wrap64 (Int.tdiv x6_1 10)) = 0
                  · rw [if_pos c9] at H
                    have c9b0 : ((wrap64 (Int.tdiv x6_1 10)) == 0) = true := beq_iff_eq.mpr c9
                    have c9b1 : ((wrap64 (Int.tdiv x6_1 10)) != 0) = false := bne_eq_false_iff_eq.mpr c9
                    clear c9
                    by_cases c10 : x7_6 = true
                    · subst c10
                      have H1 : (if a0 > 0 then (some (1, false)) else (some ((-1), false))) = some (r1, r2) := by rw [if_pos rfl] at H; exact H
                      clear H
                      have H := H1
                      clear H1
                      by_cases c11 : a0 > 0
                      · rw [if_pos c11] at H
                        have c11b0 : decide (0 < a0) = true := decide_eq_true c11
                        clear c11
                        simp only [Option.some.injEq, Prod.mk.injEq] at H
                        obtain ⟨rfl, rfl⟩ := H
                        go_wp2
                        go_ret2
                        exact ⟨by first | rfl | (simp; done) | (simp [*]; done), by repeat (first | exact Drawn0.refl _ | apply Drawn0.step)⟩
                      · rw [if_neg c11] at H
                        have c11b0 : decide (0 < a0) = false := decide_eq_false c11
                        clear c11
                        simp only [Option.some.injEq, Prod.mk.injEq] at H
                        obtain ⟨rfl, rfl⟩ := H
                        go_wp2
                        go_ret2
                        exact ⟨by first | rfl | (simp; done) | (simp [*]; done), by repeat (first | exact Drawn0.refl _ | apply Drawn0.step)⟩
                    · replace c10 := Bool.eq_false_iff.mpr c10
                      subst c10
                      have H1 : (some (0, true)) = some (r1, r2) := by rw [if_neg (show ¬ (false = true) by decide)] at H; exact H
                      clear H
                      have H := H1
                      clear H1
                      simp only [Option.some.injEq, Prod.mk.injEq] at H
                      obtain ⟨rfl, rfl⟩ := H
                      go_wp2
                      go_ret2
                      exact ⟨by first | rfl | (simp; done) | (simp [*]; done), by repeat (first | exact Drawn0.refl _ | apply Drawn0.step)⟩
                  · rw [if_neg c9] at H
                    have c9b0 : ((wrap64 (Int.tdiv x6_1 10)) == 0) = false := beq_eq_false_iff_ne.mpr c9
                    have c9b1 : ((wrap64 (Int.tdiv x6_1 10)) != 0) = true := bne_iff_ne.mpr c9
                    have H' := Aside0.mk H
                    clear H
                    go_wp2
                    go_roundg kj6
                    case measure => have := HK1.out; have := HJ4.out; have := HJ6.out; omega
                    case rel => exact ⟨(wrap64 (Int.tdiv x6_1 10)), (x7_6), (wrap32 (x8_1 + 1)), (by first | rfl | (simp; done) | (simp [*]; done)), (by first | rfl | (simp; done) | (simp [*]; done)), (by first | rfl | (simp; done) | (simp [*]; done)), H', ⟨by have := HK1.out; have := HJ4.out; have := HJ6.out; omega⟩, by repeat (first | exact Drawn0.refl _ | apply Drawn0.step)⟩
        · rw [if_neg c4] at H
          have c4b0 : decide (x8_1 < a1) = false := decide_eq_false c4
          clear c4
          by_cases c12 : x7_1 = true
          · subst c12
            have H1 : (if a0 > 0 then (some (wrap64 (x6_1 + 1), !true)) else (some (wrap64 (x6_1 - 1), !true))) = some (r1, r2) := by rw [if_pos rfl] at H; exact H
            clear H
            have H := H1
            clear H1
            by_cases c13 : a0 > 0
            · rw [if_pos c13] at H
              have c13b0 : decide (0 < a0) = true := decide_eq_true c13
              clear c13
              simp only [Option.some.injEq, Prod.mk.injEq] at H
              obtain ⟨rfl, rfl⟩ := H
              go_wp2
              go_ret2
              exact ⟨by first | rfl | (simp; done) | (simp [*]; done), by repeat (first | exact Drawn0.refl _ | apply Drawn0.step)⟩
            · rw [if_neg c13] at H
              have c13b0 : decide (0 < a0) = false := decide_eq_false c13
              clear c13
              simp only [Option.some.injEq, Prod.mk.injEq] at H
              obtain ⟨rfl, rfl⟩ := H
              go_wp2
              go_ret2
              exact ⟨by first | rfl | (simp; done) | (simp [*]; done), by repeat (first | exact Drawn0.refl _ | apply Drawn0.step)⟩
          · replace c12 := Bool.eq_false_iff.mpr c12
            subst c12
            have H1 : (some (x6_1, !false)) = some (r1, r2) := by rw [if_neg (show ¬ (false = true) by decide)] at H; exact H
            clear H
            have H := H1
            clear H1
            simp only [Option.some.injEq, Prod.mk.injEq] at H
            obtain ⟨rfl, rfl⟩ := H
            go_wp2
            go_ret2
            exact ⟨by first | rfl | (simp; done) | (simp [*]; done), by repeat (first | exact Drawn0.refl _ | apply Drawn0.step)⟩

/-! ### resource_int64Amount_AsScale: function 48 -/
def resource_int64Amount_AsScale.f (k : Nat) (a0_0 : Int) (a0_1 : Int) (a1 : Int) : Option (Int × Int × Bool) := if a0_1 ≥ a1 then (some (a0_0, a0_1, true)) else ((resource_negativeScaleInt64.f k a0_0 (wrap32 (a1 - a0_1))).bind fun bt203 => (some (bt203.1, a1, bt203.2)))
theorem resource_int64Amount_AsScale.mono : ∀ a0 a1 a2 k, LeO (resource_int64Amount_AsScale.f k a0 a1 a2) (resource_int64Amount_AsScale.f (k + 1) a0 a1 a2) := by
  intro a0 a1 a2 k
  unfold resource_int64Amount_AsScale.f
  repeat' first
      | (with_reducible exact resource_negativeScaleInt64.mono _ _ _)
      | (with_reducible exact LeO.refl _)
      | (with_reducible exact LeO.none _)
      | (with_reducible refine LeO.ite ?_ ?_)
      | (with_reducible refine LeO.bind ?_ (fun _ => ?_))
      | exact resource_negativeScaleInt64.mono _ _ _
      | exact LeO.none _
      | refine LeO.ite ?_ ?_
      | refine LeO.bind ?_ (fun _ => ?_)
set_option maxHeartbeats 8000000 in
set_option maxRecDepth 100000 in
theorem resource_int64Amount_AsScale.calls (k : Nat) (a0_0 : Int) (a0_1 : Int) (a1 : Int) (r1 : Int) (r2 : Int) (r3 : Bool) (w : World) (h : resource_int64Amount_AsScale.f k a0_0 a0_1 a1 = some (r1, r2, r3)) :
    Calls Try.prog 48 #[.agg #[.int .i64 a0_0, .int .i32 a0_1], .int .i32 a1] w fun e w' => e = .returned (.tuple #[.agg #[.int .i64 r1, .int .i32 r2], .bool r3]) ∧ Below w.heap.size w w' := by
  have hu65 := Try.underlying65
  have HB := Aside0.mk (Below.refl w.heap.size w)
  have H : (if a0_1 ≥ a1 then (some (a0_0, a0_1, true)) else ((resource_negativeScaleInt64.f k a0_0 (wrap32 (a1 - a0_1))).bind fun bt203 => (some (bt203.1, a1, bt203.2)))) = some (r1, r2, r3) := h
  clear h
  by_cases c3 : a0_1 ≥ a1
  · rw [if_pos c3] at H
    have c3b0 : decide (a1 ≤ a0_1) = true := decide_eq_true c3
    clear c3
    simp only [Option.some.injEq, Prod.mk.injEq] at H
    obtain ⟨rfl, rfl, rfl⟩ := H
    go_enter Try.func48, Try.ntmps48
    go_wp2_with (first | ((with_reducible refine gate_dst (N := 2) rfl ?_); refine box_event ?hg (N := 2) ?hd (cs := #[.int .i64 a0_0, .int .i32 a0_1]) (t := 65) ?hr ?_; (case hd => rfl); (case hg => rfl); (case hr => first | (go_simp; done) | (go_simp; rfl)); intro gb201 hg w4 hbox hb; have n0_ := Aside0.mk (below_step (by repeat (first | (with_reducible first | exact HB.out | apply below_alloc | apply pw_below_drewN | apply below_drew1) | exact HB.out)) hb); have n1_ := Aside0.mk (hbox); have n2_ := Aside0.mk ((by rw [hg]; exact (below_size (by repeat (first | (with_reducible first | exact HB.out | apply below_alloc | apply pw_below_drewN | apply below_drew1) | exact HB.out))) : w.heap.size ≤ gb201)); have n3_ := Aside0.mk ((by rw [hg]; exact (below_size (by repeat (first | (with_reducible first | exact HB.out | apply below_alloc | apply pw_below_drewN | apply below_drew1) | exact HB.out))) : w.heap.size ≤ gb201)); clear HB; have HB := n0_; have BK201 := n1_; have GW201 := n2_; have GE201 := n3_; clear n0_ n1_ n2_ n3_; clear hb hbox hg) | ((with_reducible refine gate_dst (N := 4) rfl ?_); refine box_event ?hg (N := 4) ?hd (cs := #[.int .i64 0, .int .i32 0]) (t := 65) ?hr ?_; (case hd => rfl); (case hg => rfl); (case hr => first | (go_simp; done) | (go_simp; rfl)); intro gb202 hg w5 hbox hb; have n0_ := Aside0.mk (blk_below (g := gb201) (o := .cells #[.int .i64 a0_0, .int .i32 a0_1] 65 (0, 0)) (by (with_reducible repeat (first | refine blk_drewN ?_ _ | refine blk_drew ?_ | refine blk_alloc ?_ _)); exact BK201.out) hb); have n1_ := Aside0.mk (below_step (by repeat (first | (with_reducible first | exact HB.out | apply below_alloc | apply pw_below_drewN | apply below_drew1 | refine below_set ?_ GE201.out) | exact HB.out)) hb); have n2_ := Aside0.mk (hbox); have n3_ := Aside0.mk ((by rw [hg]; exact (below_size (by repeat (first | (with_reducible first | exact HB.out | apply below_alloc | apply pw_below_drewN | apply below_drew1 | refine below_set ?_ GE201.out) | exact HB.out))) : w.heap.size ≤ gb202)); have n4_ := Aside0.mk ((by rw [hg]; exact (below_size (by repeat (first | (with_reducible first | exact HB.out | apply below_alloc | apply pw_below_drewN | apply below_drew1 | refine below_set ?_ GE201.out) | exact HB.out))) : w.heap.size ≤ gb202)); have n5_ := Aside0.mk ((by rw [hg]; exact Nat.ne_of_lt (blk_lt (g := gb201) (o := .cells #[.int .i64 a0_0, .int .i32 a0_1] 65 (0, 0)) (by (with_reducible repeat (first | refine blk_drewN ?_ _ | refine blk_drew ?_ | refine blk_alloc ?_ _)); exact BK201.out)) : gb201 ≠ gb202)); have n6_ := Aside0.mk ((by rw [hg]; exact Nat.ne_of_gt (blk_lt (g := gb201) (o := .cells #[.int .i64 a0_0, .int .i32 a0_1] 65 (0, 0)) (by (with_reducible repeat (first | refine blk_drewN ?_ _ | refine blk_drew ?_ | refine blk_alloc ?_ _)); exact BK201.out)) : gb202 ≠ gb201)); clear BK201; clear HB; have BK201 := n0_; have HB := n1_; have BK202 := n2_; have GW202 := n3_; have GE202 := n4_; have NB201_202 := n5_; have NB202_201 := n6_; clear n0_ n1_ n2_ n3_ n4_ n5_ n6_; clear hb hbox hg; have hnb6 := NB201_202.out; have hnc6 := NB202_201.out; have hcz7_0 : w5.cell? ⟨gb201, 0, none⟩ = some (.int .i64 a0_0) := (blk_cell BK201.out 0).trans rfl; have hcz7_1 : w5.cell? ⟨gb201, 1, none⟩ = some (.int .i32 a0_1) := (blk_cell BK201.out 1).trans rfl; have hfz7_0 := blk_frozen BK201.out 0; have hfz7_1 := blk_frozen BK201.out 1; have hcz8_0 : w5.cell? ⟨gb202, 0, none⟩ = some (.int .i64 0) := (blk_cell BK202.out 0).trans rfl; have hcz8_1 : w5.cell? ⟨gb202, 1, none⟩ = some (.int .i32 0) := (blk_cell BK202.out 1).trans rfl; have hfz8_0 := blk_frozen BK202.out 0; have hfz8_1 := blk_frozen BK202.out 1))
    refine bodyPost_ret (results_ct rfl _ _ gb202 65 #[.int .i64 a0_0, .int .i32 a0_1] (0, 0) _ rfl (by (with_reducible repeat (first | refine blk_drewN ?_ _ | refine blk_drew ?_ | refine blk_alloc ?_ _)); refine blk_put (cs := #[.int .i64 a0_0, .int .i32 0]) ?_ 1 _ rfl; (with_reducible repeat (first | refine blk_drewN ?_ _ | refine blk_drew ?_ | refine blk_alloc ?_ _)); refine blk_put (cs := #[.int .i64 0, .int .i32 0]) ?_ 0 _ rfl; (with_reducible repeat (first | refine blk_drewN ?_ _ | refine blk_drew ?_ | refine blk_alloc ?_ _)); exact BK202.out) Try.underlying65 rfl (by kernel_rfl)) rfl ?_
    exact ⟨by first | rfl | (simp [errW_none, errW_some] <;> rfl) | (simp [*, errW_none, errW_some] <;> rfl), by repeat (first | (with_reducible first | exact HB.out | apply below_alloc | apply pw_below_drewN | apply below_drew1 | refine below_set ?_ GE201.out | refine below_set ?_ GE202.out) | exact HB.out)⟩
  · rw [if_neg c3] at H
    have c3b0 : decide (a1 ≤ a0_1) = false := decide_eq_false c3
    clear c3
    replace H := Option.bind_eq_some_iff.mp H
    obtain ⟨⟨t203, t204⟩, A90, H⟩ := H
    replace H : (some (t203, a1, t204)) = some (r1, r2, r3) := H
    have A9 := Aside0.mk A90
    clear A90
    simp only [Option.some.injEq, Prod.mk.injEq] at H
    obtain ⟨rfl, rfl, rfl⟩ := H
    go_enter Try.func48, Try.ntmps48
    go_wp2_with (first | ((with_reducible refine gate_dst (N := 2) rfl ?_); refine box_event ?hg (N := 2) ?hd (cs := #[.int .i64 a0_0, .int .i32 a0_1]) (t := 65) ?hr ?_; (case hd => rfl); (case hg => rfl); (case hr => first | (go_simp; done) | (go_simp; rfl)); intro gb201 hg w10 hbox hb; have n0_ := Aside0.mk (below_step (by repeat (first | (with_reducible first | exact HB.out | apply below_alloc | apply pw_below_drewN | apply below_drew1) | exact HB.out)) hb); have n1_ := Aside0.mk (hbox); have n2_ := Aside0.mk ((by rw [hg]; exact (below_size (by repeat (first | (with_reducible first | exact HB.out | apply below_alloc | apply pw_below_drewN | apply below_drew1) | exact HB.out))) : w.heap.size ≤ gb201)); have n3_ := Aside0.mk ((by rw [hg]; exact (below_size (by repeat (first | (with_reducible first | exact HB.out | apply below_alloc | apply pw_below_drewN | apply below_drew1) | exact HB.out))) : w.heap.size ≤ gb201)); clear HB; have HB := n0_; have BK201 := n1_; have GW201 := n2_; have GE201 := n3_; clear n0_ n1_ n2_ n3_; clear hb hbox hg) | ((with_reducible refine gate_dst (N := 4) rfl ?_); refine box_event ?hg (N := 4) ?hd (cs := #[.int .i64 0, .int .i32 0]) (t := 65) ?hr ?_; (case hd => rfl); (case hg => rfl); (case hr => first | (go_simp; done) | (go_simp; rfl)); intro gb202 hg w11 hbox hb; have n0_ := Aside0.mk (blk_below (g := gb201) (o := .cells #[.int .i64 a0_0, .int .i32 a0_1] 65 (0, 0)) (by (with_reducible repeat (first | refine blk_drewN ?_ _ | refine blk_drew ?_ | refine blk_alloc ?_ _)); exact BK201.out) hb); have n1_ := Aside0.mk (below_step (by repeat (first | (with_reducible first | exact HB.out | apply below_alloc | apply pw_below_drewN | apply below_drew1 | refine below_set ?_ GE201.out) | exact HB.out)) hb); have n2_ := Aside0.mk (hbox); have n3_ := Aside0.mk ((by rw [hg]; exact (below_size (by repeat (first | (with_reducible first | exact HB.out | apply below_alloc | apply pw_below_drewN | apply below_drew1 | refine below_set ?_ GE201.out) | exact HB.out))) : w.heap.size ≤ gb202)); have n4_ := Aside0.mk ((by rw [hg]; exact (below_size (by repeat (first | (with_reducible first | exact HB.out | apply below_alloc | apply pw_below_drewN | apply below_drew1 | refine below_set ?_ GE201.out) | exact HB.out))) : w.heap.size ≤ gb202)); have n5_ := Aside0.mk ((by rw [hg]; exact Nat.ne_of_lt (blk_lt (g := gb201) (o := .cells #[.int .i64 a0_0, .int .i32 a0_1] 65 (0, 0)) (by (with_reducible repeat (first | refine blk_drewN ?_ _ | refine blk_drew ?_ | refine blk_alloc ?_ _)); exact BK201.out)) : gb201 ≠ gb202)); have n6_ := Aside0.mk ((by rw [hg]; exact Nat.ne_of_gt (blk_lt (g := gb201) (o := .cells #[.int .i64 a0_0, .int .i32 a0_1] 65 (0, 0)) (by (with_reducible repeat (first | refine blk_drewN ?_ _ | refine blk_drew ?_ | refine blk_alloc ?_ _)); exact BK201.out)) : gb202 ≠ gb201)); clear BK201; clear HB; have BK201 := n0_; have HB := n1_; have BK202 := n2_; have GW202 := n3_; have GE202 := n4_; have NB201_202 := n5_; have NB202_201 := n6_; clear n0_ n1_ n2_ n3_ n4_ n5_ n6_; clear hb hbox hg; have hnb12 := NB201_202.out; have hnc12 := NB202_201.out; have hcz13_0 : w11.cell? ⟨gb201, 0, none⟩ = some (.int .i64 a0_0) := (blk_cell BK201.out 0).trans rfl; have hcz13_1 : w11.cell? ⟨gb201, 1, none⟩ = some (.int .i32 a0_1) := (blk_cell BK201.out 1).trans rfl; have hfz13_0 := blk_frozen BK201.out 0; have hfz13_1 := blk_frozen BK201.out 1) | ((with_reducible refine gate_callee (f := 57) rfl ?_); refine goesL_ (some 20) rfl rfl Try.func57 (by kernel_rfl) rfl #[.int .i64 a0_0, .int .i32 (wrap32 (a1 - a0_1))] rfl (by (try simp only [List.map_toArray, List.map_cons, List.map_nil]); first | done | rfl | (simp only [List.length_drop, List.length_take]; rfl)) ?_; (with_reducible refine (resource_negativeScaleInt64.calls k a0_0 (wrap32 (a1 - a0_1)) t203 t204 _ A9.out).mono ?_); rintro e w' ⟨rfl, ⟨nd, rfl⟩⟩; refine ⟨_, rfl, ?_⟩; (try (rw [drewN_self w11]; generalize hq_ : World.drewN w11 _ = w11; have n0_ : Aside0 (w11.heap[gb201]? = some (.cells #[.int .i64 a0_0, .int .i32 a0_1] 65 (0, 0))) := ⟨by rw [← hq_]; exact (by (with_reducible repeat (first | refine blk_drewN ?_ _ | refine blk_drew ?_ | refine blk_alloc ?_ _)); exact BK201.out)⟩; have n1_ : Aside0 (w11.heap[gb202]? = some (.cells #[.int .i64 0, .int .i32 0] 65 (0, 0))) := ⟨by rw [← hq_]; exact (by (with_reducible repeat (first | refine blk_drewN ?_ _ | refine blk_drew ?_ | refine blk_alloc ?_ _)); exact BK202.out)⟩; have n2_ : Aside0 (Below w.heap.size w w11) := ⟨by rw [← hq_]; exact (by repeat (first | (with_reducible first | exact HB.out | apply below_alloc | apply pw_below_drewN | apply below_drew1 | refine below_set ?_ GE201.out | refine below_set ?_ GE202.out) | exact HB.out))⟩; clear BK201 BK202 HB hq_; have BK201 := n0_; have BK202 := n1_; have HB := n2_; clear n0_ n1_ n2_)); have hcz14_0 : w11.cell? ⟨gb202, 0, none⟩ = some (.int .i64 0) := (blk_cell BK202.out 0).trans rfl; have hcz14_1 : w11.cell? ⟨gb202, 1, none⟩ = some (.int .i32 0) := (blk_cell BK202.out 1).trans rfl; have hfz14_0 := blk_frozen BK202.out 0; have hfz14_1 := blk_frozen BK202.out 1))
    refine bodyPost_ret (results_ct rfl _ _ gb202 65 #[.int .i64 t203, .int .i32 a1] (0, 0) _ rfl (by (with_reducible repeat (first | refine blk_drewN ?_ _ | refine blk_drew ?_ | refine blk_alloc ?_ _)); refine blk_put (cs := #[.int .i64 t203, .int .i32 0]) ?_ 1 _ rfl; (with_reducible repeat (first | refine blk_drewN ?_ _ | refine blk_drew ?_ | refine blk_alloc ?_ _)); refine blk_put (cs := #[.int .i64 0, .int .i32 0]) ?_ 0 _ rfl; (with_reducible repeat (first | refine blk_drewN ?_ _ | refine blk_drew ?_ | refine blk_alloc ?_ _)); exact BK202.out) Try.underlying65 rfl (by kernel_rfl)) rfl ?_
    exact ⟨by first | rfl | (simp [errW_none, errW_some] <;> rfl) | (simp [*, errW_none, errW_some] <;> rfl), by repeat (first | (with_reducible first | exact HB.out | apply below_alloc | apply pw_below_drewN | apply below_drew1 | refine below_set ?_ GE201.out | refine below_set ?_ GE202.out) | exact HB.out)⟩

/-! ### impl_AmountAsScale: function 28 -/
def impl_AmountAsScale.f (k : Nat) (a0_0 : Int) (a0_1 : Int) (a1 : Int) : Option (Int × Int × Bool) := (resource_ZzAmount.f a0_0 (wrap32 (a0_1))).bind fun bt207 => ((resource_int64Amount_AsScale.f k bt207.1 bt207.2 (wrap32 (a1))).bind fun bt209 => ((resource_int64Amount_ZzParts.f bt209.1 bt209.2.1).bind fun bt213 => (some (bt213.1, wrap64 (bt213.2), bt209.2.2))))
theorem impl_AmountAsScale.mono : ∀ a0 a1 a2 k, LeO (impl_AmountAsScale.f k a0 a1 a2) (impl_AmountAsScale.f (k + 1) a0 a1 a2) := by
  intro a0 a1 a2 k
  unfold impl_AmountAsScale.f
  repeat' first
      | (with_reducible exact resource_int64Amount_AsScale.mono _ _ _ _)
      | (with_reducible exact LeO.refl _)
      | (with_reducible exact LeO.none _)
      | (with_reducible refine LeO.ite ?_ ?_)
      | (with_reducible refine LeO.bind ?_ (fun _ => ?_))
      | exact resource_int64Amount_AsScale.mono _ _ _ _
      | exact LeO.none _
      | refine LeO.ite ?_ ?_
      | refine LeO.bind ?_ (fun _ => ?_)
set_option maxHeartbeats 8000000 in
set_option maxRecDepth 100000 in
theorem impl_AmountAsScale.calls (k : Nat) (a0_0 : Int) (a0_1 : Int) (a1 : Int) (r1 : Int) (r2 : Int) (r3 : Bool) (w : World) (h : impl_AmountAsScale.f k a0_0 a0_1 a1 = some (r1, r2, r3)) :
    Calls Try.prog 28 #[.agg #[.int .i64 a0_0, .int .i64 a0_1], .int .i64 a1] w fun e w' => e = .returned (.tuple #[.agg #[.int .i64 r1, .int .i64 r2], .bool r3]) ∧ Below w.heap.size w w' := by
  have hu40 := Try.underlying40
  have hu65 := Try.underlying65
  have HB := Aside0.mk (Below.refl w.heap.size w)
  have H : ((resource_ZzAmount.f a0_0 (wrap32 (a0_1))).bind fun bt207 => ((resource_int64Amount_AsScale.f k bt207.1 bt207.2 (wrap32 (a1))).bind fun bt209 => ((resource_int64Amount_ZzParts.f bt209.1 bt209.2.1).bind fun bt213 => (some (bt213.1, wrap64 (bt213.2), bt209.2.2))))) = some (r1, r2, r3) := h
  clear h
  replace H := Option.bind_eq_some_iff.mp H
  obtain ⟨⟨t207, t208⟩, A30, H⟩ := H
  replace H : ((resource_int64Amount_AsScale.f k t207 t208 (wrap32 (a1))).bind fun bt209 => ((resource_int64Amount_ZzParts.f bt209.1 bt209.2.1).bind fun bt213 => (some (bt213.1, wrap64 (bt213.2), bt209.2.2)))) = some (r1, r2, r3) := H
  have A3 := Aside0.mk A30
  clear A30
  replace H := Option.bind_eq_some_iff.mp H
  obtain ⟨⟨t209, t210, t211⟩, A40, H⟩ := H
  replace H : ((resource_int64Amount_ZzParts.f t209 t210).bind fun bt213 => (some (bt213.1, wrap64 (bt213.2), t211))) = some (r1, r2, r3) := H
  have A4 := Aside0.mk A40
  clear A40
  replace H := Option.bind_eq_some_iff.mp H
  obtain ⟨⟨t213, t214⟩, A50, H⟩ := H
  replace H : (some (t213, wrap64 (t214), t211)) = some (r1, r2, r3) := H
  have A5 := Aside0.mk A50
  clear A50
  simp only [Option.some.injEq, Prod.mk.injEq] at H
  obtain ⟨rfl, rfl, rfl⟩ := H
  go_enter Try.func28, Try.ntmps28
  go_wp2_with (first | ((with_reducible refine gate_dst (N := 2) rfl ?_); refine box_event ?hg (N := 2) ?hd (cs := #[.int .i64 a0_0, .int .i64 a0_1]) (t := 40) ?hr ?_; (case hd => rfl); (case hg => rfl); (case hr => first | (go_simp; done) | (go_simp; rfl)); intro gb205 hg w6 hbox hb; have n0_ := Aside0.mk (below_step (by repeat (first | (with_reducible first | exact HB.out | apply below_alloc | apply pw_below_drewN | apply below_drew1) | exact HB.out)) hb); have n1_ := Aside0.mk (hbox); have n2_ := Aside0.mk ((by rw [hg]; exact (below_size (by repeat (first | (with_reducible first | exact HB.out | apply below_alloc | apply pw_below_drewN | apply below_drew1) | exact HB.out))) : w.heap.size ≤ gb205)); have n3_ := Aside0.mk ((by rw [hg]; exact (below_size (by repeat (first | (with_reducible first | exact HB.out | apply below_alloc | apply pw_below_drewN | apply below_drew1) | exact HB.out))) : w.heap.size ≤ gb205)); clear HB; have HB := n0_; have BK205 := n1_; have GW205 := n2_; have GE205 := n3_; clear n0_ n1_ n2_ n3_; clear hb hbox hg) | ((with_reducible refine gate_dst (N := 4) rfl ?_); refine box_event ?hg (N := 4) ?hd (cs := #[.int .i64 0, .int .i64 0]) (t := 40) ?hr ?_; (case hd => rfl); (case hg => rfl); (case hr => first | (go_simp; done) | (go_simp; rfl)); intro gb206 hg w7 hbox hb; have n0_ := Aside0.mk (blk_below (g := gb205) (o := .cells #[.int .i64 a0_0, .int .i64 a0_1] 40 (0, 0)) (by (with_reducible repeat (first | refine blk_drewN ?_ _ | refine blk_drew ?_ | refine blk_alloc ?_ _)); exact BK205.out) hb); have n1_ := Aside0.mk (below_step (by repeat (first | (with_reducible first | exact HB.out | apply below_alloc | apply pw_below_drewN | apply below_drew1 | refine below_set ?_ GE205.out) | exact HB.out)) hb); have n2_ := Aside0.mk (hbox); have n3_ := Aside0.mk ((by rw [hg]; exact (below_size (by repeat (first | (with_reducible first | exact HB.out | apply below_alloc | apply pw_below_drewN | apply below_drew1 | refine below_set ?_ GE205.out) | exact HB.out))) : w.heap.size ≤ gb206)); have n4_ := Aside0.mk ((by rw [hg]; exact (below_size (by repeat (first | (with_reducible first | exact HB.out | apply below_alloc | apply pw_below_drewN | apply below_drew1 | refine below_set ?_ GE205.out) | exact HB.out))) : w.heap.size ≤ gb206)); have n5_ := Aside0.mk ((by rw [hg]; exact Nat.ne_of_lt (blk_lt (g := gb205) (o := .cells #[.int .i64 a0_0, .int .i64 a0_1] 40 (0, 0)) (by (with_reducible repeat (first | refine blk_drewN ?_ _ | refine blk_drew ?_ | refine blk_alloc ?_ _)); exact BK205.out)) : gb205 ≠ gb206)); have n6_ := Aside0.mk ((by rw [hg]; exact Nat.ne_of_gt (blk_lt (g := gb205) (o := .cells #[.int .i64 a0_0, .int .i64 a0_1] 40 (0, 0)) (by (with_reducible repeat (first | refine blk_drewN ?_ _ | refine blk_drew ?_ | refine blk_alloc ?_ _)); exact BK205.out)) : gb206 ≠ gb205)); clear BK205; clear HB; have BK205 := n0_; have HB := n1_; have BK206 := n2_; have GW206 := n3_; have GE206 := n4_; have NB205_206 := n5_; have NB206_205 := n6_; clear n0_ n1_ n2_ n3_ n4_ n5_ n6_; clear hb hbox hg; have hnb8 := NB205_206.out; have hnc8 := NB206_205.out; have hcz9_0 : w7.cell? ⟨gb205, 0, none⟩ = some (.int .i64 a0_0) := (blk_cell BK205.out 0).trans rfl; have hcz9_1 : w7.cell? ⟨gb205, 1, none⟩ = some (.int .i64 a0_1) := (blk_cell BK205.out 1).trans rfl; have hfz9_0 := blk_frozen BK205.out 0; have hfz9_1 := blk_frozen BK205.out 1) | ((with_reducible refine gate_callee (f := 41) rfl ?_); refine goesL_ (some 16) rfl rfl Try.func41 (by kernel_rfl) rfl #[.int .i64 a0_0, .int .i32 (wrap32 (a0_1))] rfl (by (try simp only [List.map_toArray, List.map_cons, List.map_nil]); first | done | rfl | (simp only [List.length_drop, List.length_take]; rfl)) ?_; (with_reducible refine (resource_ZzAmount.calls a0_0 (wrap32 (a0_1)) t207 t208 _ A3.out).mono ?_); rintro e w10 ⟨rfl, hb⟩; refine ⟨_, rfl, ?_⟩; have n0_ := Aside0.mk (blk_below (g := gb205) (o := .cells #[.int .i64 a0_0, .int .i64 a0_1] 40 (0, 0)) (by (with_reducible repeat (first | refine blk_drewN ?_ _ | refine blk_drew ?_ | refine blk_alloc ?_ _)); exact BK205.out) hb); have n1_ := Aside0.mk (blk_below (g := gb206) (o := .cells #[.int .i64 0, .int .i64 0] 40 (0, 0)) (by (with_reducible repeat (first | refine blk_drewN ?_ _ | refine blk_drew ?_ | refine blk_alloc ?_ _)); exact BK206.out) hb); have n2_ := Aside0.mk (below_step (by repeat (first | (with_reducible first | exact HB.out | apply below_alloc | apply pw_below_drewN | apply below_drew1 | refine below_set ?_ GE205.out | refine below_set ?_ GE206.out) | exact HB.out)) hb); clear BK205; clear BK206; clear HB; have BK205 := n0_; have BK206 := n1_; have HB := n2_; clear n0_ n1_ n2_; (try clear hb); (try clear hb2); (try clear hk); (try clear hi)) | ((with_reducible refine gate_callee (f := 48) rfl ?_); refine goesL_ (some 19) rfl rfl Try.func48 (by kernel_rfl) rfl #[.agg #[.int .i64 t207, .int .i32 t208], .int .i32 (wrap32 (a1))] rfl (by (try simp only [List.map_toArray, List.map_cons, List.map_nil]); first | done | rfl | (simp only [List.length_drop, List.length_take]; rfl)) ?_; (with_reducible refine (resource_int64Amount_AsScale.calls k t207 t208 (wrap32 (a1)) t209 t210 t211 _ A4.out).mono ?_); rintro e w11 ⟨rfl, hb⟩; refine ⟨_, rfl, ?_⟩; have n0_ := Aside0.mk (blk_below (g := gb205) (o := .cells #[.int .i64 a0_0, .int .i64 a0_1] 40 (0, 0)) (by (with_reducible repeat (first | refine blk_drewN ?_ _ | refine blk_drew ?_ | refine blk_alloc ?_ _)); exact BK205.out) hb); have n1_ := Aside0.mk (blk_below (g := gb206) (o := .cells #[.int .i64 0, .int .i64 0] 40 (0, 0)) (by (with_reducible repeat (first | refine blk_drewN ?_ _ | refine blk_drew ?_ | refine blk_alloc ?_ _)); exact BK206.out) hb); have n2_ := Aside0.mk (below_step (by repeat (first | (with_reducible first | exact HB.out | apply below_alloc | apply pw_below_drewN | apply below_drew1 | refine below_set ?_ GE205.out | refine below_set ?_ GE206.out) | exact HB.out)) hb); clear BK205; clear BK206; clear HB; have BK205 := n0_; have BK206 := n1_; have HB := n2_; clear n0_ n1_ n2_; (try clear hb); (try clear hb2); (try clear hk); (try clear hi)) | ((with_reducible refine gate_dst (N := 6) rfl ?_); refine box_event ?hg (N := 6) ?hd (cs := #[.int .i64 0, .int .i32 0]) (t := 65) ?hr ?_; (case hd => rfl); (case hg => rfl); (case hr => first | (go_simp; done) | (go_simp; rfl)); intro gb212 hg w12 hbox hb; have n0_ := Aside0.mk (blk_below (g := gb205) (o := .cells #[.int .i64 a0_0, .int .i64 a0_1] 40 (0, 0)) (by (with_reducible repeat (first | refine blk_drewN ?_ _ | refine blk_drew ?_ | refine blk_alloc ?_ _)); exact BK205.out) hb); have n1_ := Aside0.mk (blk_below (g := gb206) (o := .cells #[.int .i64 0, .int .i64 0] 40 (0, 0)) (by (with_reducible repeat (first | refine blk_drewN ?_ _ | refine blk_drew ?_ | refine blk_alloc ?_ _)); exact BK206.out) hb); have n2_ := Aside0.mk (below_step (by repeat (first | (with_reducible first | exact HB.out | apply below_alloc | apply pw_below_drewN | apply below_drew1 | refine below_set ?_ GE205.out | refine below_set ?_ GE206.out) | exact HB.out)) hb); have n3_ := Aside0.mk (hbox); have n4_ := Aside0.mk ((by rw [hg]; exact (below_size (by repeat (first | (with_reducible first | exact HB.out | apply below_alloc | apply pw_below_drewN | apply below_drew1 | refine below_set ?_ GE205.out | refine below_set ?_ GE206.out) | exact HB.out))) : w.heap.size ≤ gb212)); have n5_ := Aside0.mk ((by rw [hg]; exact (below_size (by repeat (first | (with_reducible first | exact HB.out | apply below_alloc | apply pw_below_drewN | apply below_drew1 | refine below_set ?_ GE205.out | refine below_set ?_ GE206.out) | exact HB.out))) : w.heap.size ≤ gb212)); have n6_ := Aside0.mk ((by rw [hg]; exact Nat.ne_of_lt (blk_lt (g := gb205) (o := .cells #[.int .i64 a0_0, .int .i64 a0_1] 40 (0, 0)) (by (with_reducible repeat (first | refine blk_drewN ?_ _ | refine blk_drew ?_ | refine blk_alloc ?_ _)); exact BK205.out)) : gb205 ≠ gb212)); have n7_ := Aside0.mk ((by rw [hg]; exact Nat.ne_of_gt (blk_lt (g := gb205) (o := .cells #[.int .i64 a0_0, .int .i64 a0_1] 40 (0, 0)) (by (with_reducible repeat (first | refine blk_drewN ?_ _ | refine blk_drew ?_ | refine blk_alloc ?_ _)); exact BK205.out)) : gb212 ≠ gb205)); have n8_ := Aside0.mk ((by rw [hg]; exact Nat.ne_of_lt (blk_lt (g := gb206) (o := .cells #[.int .i64 0, .int .i64 0] 40 (0, 0)) (by (with_reducible repeat (first | refine blk_drewN ?_ _ | refine blk_drew ?_ | refine blk_alloc ?_ _)); exact BK206.out)) : gb206 ≠ gb212)); have n9_ := Aside0.mk ((by rw [hg]; exact Nat.ne_of_gt (blk_lt (g := gb206) (o := .cells #[.int .i64 0, .int .i64 0] 40 (0, 0)) (by (with_reducible repeat (first | refine blk_drewN ?_ _ | refine blk_drew ?_ | refine blk_alloc ?_ _)); exact BK206.out)) : gb212 ≠ gb206)); clear BK205; clear BK206; clear HB; have BK205 := n0_; have BK206 := n1_; have HB := n2_; have BK212 := n3_; have GW212 := n4_; have GE212 := n5_; have NB205_212 := n6_; have NB212_205 := n7_; have NB206_212 := n8_; have NB212_206 := n9_; clear n0_ n1_ n2_ n3_ n4_ n5_ n6_ n7_ n8_ n9_; clear hb hbox hg; have hnb13 := NB212_205.out; have hnc13 := NB205_212.out; have hnb14 := NB212_206.out; have hnc14 := NB206_212.out; have hcz15_0 : w12.cell? ⟨gb212, 0, none⟩ = some (.int .i64 0) := (blk_cell BK212.out 0).trans rfl; have hcz15_1 : w12.cell? ⟨gb212, 1, none⟩ = some (.int .i32 0) := (blk_cell BK212.out 1).trans rfl; have hfz15_0 := blk_frozen BK212.out 0; have hfz15_1 := blk_frozen BK212.out 1) | ((with_reducible refine gate_callee (f := 43) rfl ?_); refine goesL_ (some 24) rfl rfl Try.func43 (by kernel_rfl) rfl #[.agg #[.int .i64 t209, .int .i32 t210]] rfl (by (try simp only [List.map_toArray, List.map_cons, List.map_nil]); first | done | rfl | (simp only [List.length_drop, List.length_take]; rfl)) ?_; (with_reducible refine (resource_int64Amount_ZzParts.calls t209 t210 t213 t214 _ A5.out).mono ?_); rintro e w16 ⟨rfl, hb⟩; refine ⟨_, rfl, ?_⟩; have n0_ := Aside0.mk (blk_below (g := gb205) (o := .cells #[.int .i64 a0_0, .int .i64 a0_1] 40 (0, 0)) (by (with_reducible repeat (first | refine blk_drewN ?_ _ | refine blk_drew ?_ | refine blk_alloc ?_ _)); refine blk_far ?_ NB205_212.out _; (with_reducible repeat (first | refine blk_drewN ?_ _ | refine blk_drew ?_ | refine blk_alloc ?_ _)); refine blk_far ?_ NB205_212.out _; (with_reducible repeat (first | refine blk_drewN ?_ _ | refine blk_drew ?_ | refine blk_alloc ?_ _)); exact BK205.out) hb); have n1_ := Aside0.mk (blk_below (g := gb206) (o := .cells #[.int .i64 0, .int .i64 0] 40 (0, 0)) (by (with_reducible repeat (first | refine blk_drewN ?_ _ | refine blk_drew ?_ | refine blk_alloc ?_ _)); refine blk_far ?_ NB206_212.out _; (with_reducible repeat (first | refine blk_drewN ?_ _ | refine blk_drew ?_ | refine blk_alloc ?_ _)); refine blk_far ?_ NB206_212.out _; (with_reducible repeat (first | refine blk_drewN ?_ _ | refine blk_drew ?_ | refine blk_alloc ?_ _)); exact BK206.out) hb); have n2_ := Aside0.mk (blk_below (g := gb212) (o := .cells #[.int .i64 t209, .int .i32 t210] 65 (0, 0)) (by (with_reducible repeat (first | refine blk_drewN ?_ _ | refine blk_drew ?_ | refine blk_alloc ?_ _)); refine blk_put (cs := #[.int .i64 t209, .int .i32 0]) ?_ 1 _ rfl; (with_reducible repeat (first | refine blk_drewN ?_ _ | refine blk_drew ?_ | refine blk_alloc ?_ _)); refine blk_put (cs := #[.int .i64 0, .int .i32 0]) ?_ 0 _ rfl; (with_reducible repeat (first | refine blk_drewN ?_ _ | refine blk_drew ?_ | refine blk_alloc ?_ _)); exact BK212.out) hb); have n3_ := Aside0.mk (below_step (by repeat (first | (with_reducible first | exact HB.out | apply below_alloc | apply pw_below_drewN | apply below_drew1 | refine below_set ?_ GE205.out | refine below_set ?_ GE206.out | refine below_set ?_ GE212.out) | exact HB.out)) hb); clear BK205; clear BK206; clear BK212; clear HB; have BK205 := n0_; have BK206 := n1_; have BK212 := n2_; have HB := n3_; clear n0_ n1_ n2_ n3_; (try clear hb); (try clear hb2); (try clear hk); (try clear hi); have hcz17_0 : w16.cell? ⟨gb206, 0, none⟩ = some (.int .i64 0) := (blk_cell BK206.out 0).trans rfl; have hcz17_1 : w16.cell? ⟨gb206, 1, none⟩ = some (.int .i64 0) := (blk_cell BK206.out 1).trans rfl; have hfz17_0 := blk_frozen BK206.out 0; have hfz17_1 := blk_frozen BK206.out 1))
  refine bodyPost_ret (results_ct rfl _ _ gb206 40 #[.int .i64 t213, .int .i64 (wrap64 (t214))] (0, 0) _ rfl (by (with_reducible repeat (first | refine blk_drewN ?_ _ | refine blk_drew ?_ | refine blk_alloc ?_ _)); refine blk_put (cs := #[.int .i64 t213, .int .i64 0]) ?_ 1 _ rfl; (with_reducible repeat (first | refine blk_drewN ?_ _ | refine blk_drew ?_ | refine blk_alloc ?_ _)); refine blk_put (cs := #[.int .i64 0, .int .i64 0]) ?_ 0 _ rfl; (with_reducible repeat (first | refine blk_drewN ?_ _ | refine blk_drew ?_ | refine blk_alloc ?_ _)); exact BK206.out) Try.underlying40 rfl (by kernel_rfl)) rfl ?_
  exact ⟨by first | rfl | (simp [errW_none, errW_some] <;> rfl) | (simp [*, errW_none, errW_some] <;> rfl), by repeat (first | (with_reducible first | exact HB.out | apply below_alloc | apply pw_below_drewN | apply below_drew1 | refine below_set ?_ GE205.out | refine below_set ?_ GE206.out | refine below_set ?_ GE212.out) | exact HB.out)⟩

end Go.Proofs.Ytpchihkegmihiaa.XFnAmountRounds
