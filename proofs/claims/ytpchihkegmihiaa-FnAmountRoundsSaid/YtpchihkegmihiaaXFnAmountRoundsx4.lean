/- A text of this session: the functions of the law FnAmountRounds, by a program that calls the kit's print and lays this session's own contracts of single functions beside. -/
import Derived.Test.YtpchihkegmihiaaXFnAmountRoundsx0
import Derived.Test.YtpchihkegmihiaaXFnAmountRoundsx2
import Derived.Test.YtpchihkegmihiaaXFnAmountRoundsx3
namespace Go.Proofs.Ytpchihkegmihiaa.XFnAmountRounds
open Go.RowKit Go.Proofs.YtpchihkegmihiaaW.PrintWords Go.Proofs.YtpchihkegmihiaaW.PrintLast Go.Proofs.YtpchihkegmihiaaW.PrintMore
attribute [local go_sem] max2_int min2_int max_two min_two max_three min_three max_four min_four   -- for this text's walks alone
set_option linter.unusedVariables false
set_option linter.unusedSimpArgs false

/-! ### spec_DecimalCmp: function 44 -/
def spec_DecimalCmp.j0 : Nat → Int → Int → Bool → Bool → List Int → Int → Bool → List Int → Int → Option (Int)
  | 0, _, _, _, _, _, _, _, _, _ => none
  | k + 1, x5, x6, x11, x151000, x151001, x151002, x152000, x152001, x152002 => if x11 = true then (some (-1)) else (if x5 = x6 then (if x5 < 0 then ((spec_larger.f k x151000 x151001 x151002 x152000 x152001 x152002).bind fun t154 => (some (wrap64 (-t154)))) else (if x5 > 0 then ((spec_larger.f k x151000 x151001 x151002 x152000 x152001 x152002).bind fun t155 => (some t155)) else (some 0))) else (some 1))
def spec_DecimalCmp.f (k : Nat) (a0_0 : Bool) (l0_1 : List Int) (a0_2 : Int) (a1_0 : Bool) (l1_1 : List Int) (a1_2 : Int) : Option (Int) := (spec_DecimalSign.f a0_0 l0_1 a0_2).bind fun t152 => ((spec_DecimalSign.f a1_0 l1_1 a1_2).bind fun t153 => (if t152 = t153 then (spec_DecimalCmp.j0 k t152 t153 false a0_0 l0_1 a0_2 a1_0 l1_1 a1_2) else (spec_DecimalCmp.j0 k t152 t153 (decide (t152 < t153)) a0_0 l0_1 a0_2 a1_0 l1_1 a1_2)))
theorem spec_DecimalCmp.mono_l : ∀ k, (∀ y0 y1 y2 y3 y4 y5 y6 y7 y8, LeO (spec_DecimalCmp.j0 k y0 y1 y2 y3 y4 y5 y6 y7 y8) (spec_DecimalCmp.j0 (k + 1) y0 y1 y2 y3 y4 y5 y6 y7 y8))
  | 0 => fun _ _ _ _ _ _ _ _ _ r h => by simp [spec_DecimalCmp.j0] at h
  | k + 1 => by
    have ih0 := spec_DecimalCmp.mono_l k
    · intro y0 y1 y2 y3 y4 y5 y6 y7 y8
      unfold spec_DecimalCmp.j0
      repeat' first
      | (with_reducible exact ih0 _ _ _ _ _ _ _ _ _)
      | (with_reducible exact spec_larger.mono _ _ _ _ _ _ _)
      | (with_reducible exact LeO.refl _)
      | (with_reducible exact LeO.none _)
      | (with_reducible refine LeO.ite ?_ ?_)
      | (with_reducible refine LeO.bind ?_ (fun _ => ?_))
      | exact ih0 _ _ _ _ _ _ _ _ _
      | exact spec_larger.mono _ _ _ _ _ _ _
      | exact LeO.none _
      | refine LeO.ite ?_ ?_
      | refine LeO.bind ?_ (fun _ => ?_)
theorem spec_DecimalCmp.mono : ∀ a0 a1 a2 a3 a4 a5 k, LeO (spec_DecimalCmp.f k a0 a1 a2 a3 a4 a5) (spec_DecimalCmp.f (k + 1) a0 a1 a2 a3 a4 a5) := by
  intro a0 a1 a2 a3 a4 a5 k
  have ih0 := spec_DecimalCmp.mono_l k
  unfold spec_DecimalCmp.f
  repeat' first
      | (with_reducible exact ih0 _ _ _ _ _ _ _ _ _)
      | (with_reducible exact spec_larger.mono _ _ _ _ _ _ _)
      | (with_reducible exact LeO.refl _)
      | (with_reducible exact LeO.none _)
      | (with_reducible refine LeO.ite ?_ ?_)
      | (with_reducible refine LeO.bind ?_ (fun _ => ?_))
      | exact ih0 _ _ _ _ _ _ _ _ _
      | exact spec_larger.mono _ _ _ _ _ _ _
      | exact LeO.none _
      | refine LeO.ite ?_ ?_
      | refine LeO.bind ?_ (fun _ => ?_)
set_option maxHeartbeats 8000000 in
set_option maxRecDepth 100000 in
theorem spec_DecimalCmp.calls (k : Nat) (a0_0 : Bool) (A0_1 : Option Addr) (c0_1 : Nat) (l0_1 : List Int) (a0_2 : Int) (a1_0 : Bool) (A1_1 : Option Addr) (c1_1 : Nat) (l1_1 : List Int) (a1_2 : Int) (r : Int) (w : World) (hr0_1 : Kd.C (Kd.int .i64) w A0_1 l0_1.length l0_1) (hc0_1 : l0_1.length ≤ c0_1) (hr1_1 : Kd.C (Kd.int .i64) w A1_1 l1_1.length l1_1) (hc1_1 : l1_1.length ≤ c1_1) (h : spec_DecimalCmp.f k a0_0 l0_1 a0_2 a1_0 l1_1 a1_2 = some r) :
    Calls Try.prog 44 #[.agg #[.bool a0_0, .slice A0_1 l0_1.length c0_1, .int .i64 a0_2], .agg #[.bool a1_0, .slice A1_1 l1_1.length c1_1, .int .i64 a1_2]] w fun e w' => e = .returned (.int .i64 r) ∧ Below w.heap.size w w' := by
  have hu24 := Try.underlying24
  have HR0_1 := Aside0.mk hr0_1
  have HC0_1 := Aside0.mk hc0_1
  clear hr0_1 hc0_1
  have HR1_1 := Aside0.mk hr1_1
  have HC1_1 := Aside0.mk hc1_1
  clear hr1_1 hc1_1
  have HB := Aside0.mk (Below.refl w.heap.size w)
  have H : ((spec_DecimalSign.f a0_0 l0_1 a0_2).bind fun t152 => ((spec_DecimalSign.f a1_0 l1_1 a1_2).bind fun t153 => (if t152 = t153 then (spec_DecimalCmp.j0 k t152 t153 false a0_0 l0_1 a0_2 a1_0 l1_1 a1_2) else (spec_DecimalCmp.j0 k t152 t153 (decide (t152 < t153)) a0_0 l0_1 a0_2 a1_0 l1_1 a1_2)))) = some r := h
  clear h
  replace H := Option.bind_eq_some_iff.mp H
  obtain ⟨t152, A30, H⟩ := H
  replace H : ((spec_DecimalSign.f a1_0 l1_1 a1_2).bind fun t153 => (if t152 = t153 then (spec_DecimalCmp.j0 k t152 t153 false a0_0 l0_1 a0_2 a1_0 l1_1 a1_2) else (spec_DecimalCmp.j0 k t152 t153 (decide (t152 < t153)) a0_0 l0_1 a0_2 a1_0 l1_1 a1_2))) = some r := H
  have A3 := Aside0.mk A30
  clear A30
  replace H := Option.bind_eq_some_iff.mp H
  obtain ⟨t153, A40, H⟩ := H
  replace H : (if t152 = t153 then (spec_DecimalCmp.j0 k t152 t153 false a0_0 l0_1 a0_2 a1_0 l1_1 a1_2) else (spec_DecimalCmp.j0 k t152 t153 (decide (t152 < t153)) a0_0 l0_1 a0_2 a1_0 l1_1 a1_2)) = some r := H
  have A4 := Aside0.mk A40
  clear A40
  have HC5 := Aside0.mk H
  clear H
  go_enter Try.func44, Try.ntmps44
  try go_wp2_with (first | ((with_reducible refine gate_dst (N := 2) rfl ?_); refine box_event ?hg (N := 2) ?hd (cs := #[.bool a0_0, .slice A0_1 l0_1.length c0_1, .int .i64 a0_2]) (t := 24) ?hr ?_; (case hd => rfl); (case hg => rfl); (case hr => first | (go_simp; done) | (go_simp; rfl)); intro gb150 hg w6 hbox hb; have n0_ := Aside0.mk (below_step (by repeat (first | (with_reducible first | exact HB.out | apply below_alloc | apply pw_below_drewN | apply below_drew1) | exact HB.out)) hb); have n1_ := Aside0.mk (hbox); have n2_ := Aside0.mk ((by rw [hg]; exact (below_size (by repeat (first | (with_reducible first | exact HB.out | apply below_alloc | apply pw_below_drewN | apply below_drew1) | exact HB.out))) : w.heap.size ≤ gb150)); have n3_ := Aside0.mk ((by rw [hg]; exact (below_size (by repeat (first | (with_reducible first | exact HB.out | apply below_alloc | apply pw_below_drewN | apply below_drew1) | exact HB.out))) : w.heap.size ≤ gb150)); clear HB; have HB := n0_; have BK150 := n1_; have GW150 := n2_; have GE150 := n3_; clear n0_ n1_ n2_ n3_; clear hb hbox hg) | ((with_reducible refine gate_dst (N := 3) rfl ?_); refine box_event ?hg (N := 3) ?hd (cs := #[.bool a1_0, .slice A1_1 l1_1.length c1_1, .int .i64 a1_2]) (t := 24) ?hr ?_; (case hd => rfl); (case hg => rfl); (case hr => first | (go_simp; done) | (go_simp; rfl)); intro gb151 hg w7 hbox hb; have n0_ := Aside0.mk (blk_below (g := gb150) (o := .cells #[.bool a0_0, .slice A0_1 l0_1.length c0_1, .int .i64 a0_2] 24 (0, 0)) (by (with_reducible repeat (first | refine blk_drewN ?_ _ | refine blk_drew ?_ | refine blk_alloc ?_ _)); exact BK150.out) hb); have n1_ := Aside0.mk (below_step (by repeat (first | (with_reducible first | exact HB.out | apply below_alloc | apply pw_below_drewN | apply below_drew1 | refine below_set ?_ GE150.out) | exact HB.out)) hb); have n2_ := Aside0.mk (hbox); have n3_ := Aside0.mk ((by rw [hg]; exact (below_size (by repeat (first | (with_reducible first | exact HB.out | apply below_alloc | apply pw_below_drewN | apply below_drew1 | refine below_set ?_ GE150.out) | exact HB.out))) : w.heap.size ≤ gb151)); have n4_ := Aside0.mk ((by rw [hg]; exact (below_size (by repeat (first | (with_reducible first | exact HB.out | apply below_alloc | apply pw_below_drewN | apply below_drew1 | refine below_set ?_ GE150.out) | exact HB.out))) : w.heap.size ≤ gb151)); have n5_ := Aside0.mk ((by rw [hg]; exact Nat.ne_of_lt (blk_lt (g := gb150) (o := .cells #[.bool a0_0, .slice A0_1 l0_1.length c0_1, .int .i64 a0_2] 24 (0, 0)) (by (with_reducible repeat (first | refine blk_drewN ?_ _ | refine blk_drew ?_ | refine blk_alloc ?_ _)); exact BK150.out)) : gb150 ≠ gb151)); have n6_ := Aside0.mk ((by rw [hg]; exact Nat.ne_of_gt (blk_lt (g := gb150) (o := .cells #[.bool a0_0, .slice A0_1 l0_1.length c0_1, .int .i64 a0_2] 24 (0, 0)) (by (with_reducible repeat (first | refine blk_drewN ?_ _ | refine blk_drew ?_ | refine blk_alloc ?_ _)); exact BK150.out)) : gb151 ≠ gb150)); clear BK150; clear HB; have BK150 := n0_; have HB := n1_; have BK151 := n2_; have GW151 := n3_; have GE151 := n4_; have NB150_151 := n5_; have NB151_150 := n6_; clear n0_ n1_ n2_ n3_ n4_ n5_ n6_; clear hb hbox hg))
  have n0_ := Aside0.mk (blk_drew BK150.out)
  have n1_ := Aside0.mk (blk_drew BK151.out)
  have n2_ := Aside0.mk (below_drew1 HB.out)
  clear BK150
  clear BK151
  clear HB
  have BK150 := n0_
  have BK151 := n1_
  have HB := n2_
  clear n0_ n1_ n2_
  refine start_ (n := 6) (S := fun w' => w'.cell? ⟨gb150, 0, none⟩ = some (.bool a0_0) ∧ w'.cell? ⟨gb150, 1, none⟩ = some (.slice A0_1 l0_1.length c0_1) ∧ w'.cell? ⟨gb150, 2, none⟩ = some (.int .i64 a0_2) ∧ w'.cell? ⟨gb151, 0, none⟩ = some (.bool a1_0) ∧ w'.cell? ⟨gb151, 1, none⟩ = some (.slice A1_1 l1_1.length c1_1) ∧ w'.cell? ⟨gb151, 2, none⟩ = some (.int .i64 a1_2)) (ds := []) #[false, false, false, false, false, false] (by kernel_rfl) rfl rfl ⟨(blk_cell BK150.out 0).trans rfl, (blk_cell BK150.out 1).trans rfl, (blk_cell BK150.out 2).trans rfl, (blk_cell BK151.out 0).trans rfl, (blk_cell BK151.out 1).trans rfl, (blk_cell BK151.out 2).trans rfl⟩ (fun hHeld => ?_)
  generalize w7.drew = w8 at BK150 BK151 HB hHeld ⊢
  refine take_ (i := 0) (N := some 7) (v := ?_) (a' := ?_) #[true, false, false, false, false, false] rfl rfl (by kernel_rfl) (fun _ _ _ h => h) (Or.inl ⟨by rfl, ?_⟩) hHeld ?_ ?_
  rotate_left
  · rintro w' ⟨s0, s1, s2, s3, s4, s5⟩
    go_simp
    with_reducible rfl
  rotate_left
  · simp only [Act.put, List.setIfInBounds_toArray, List.set_cons_zero, List.set_cons_succ, i64_w, i32_w]
    rfl
  refine take_ (i := 2) (N := some 9) (v := ?_) (a' := ?_) #[true, false, true, false, false, false] rfl rfl (by kernel_rfl) (fun _ _ _ h => h) (Or.inl ⟨by rfl, ?_⟩) hHeld ?_ ?_
  rotate_left
  · rintro w' ⟨s0, s1, s2, s3, s4, s5⟩
    go_simp
    with_reducible rfl
  rotate_left
  · simp only [Act.put, List.setIfInBounds_toArray, List.set_cons_zero, List.set_cons_succ, i64_w, i32_w]
    rfl
  refine one_ (i := 1) (N := some 8) #[true, true, true, false, false, false] rfl rfl (by kernel_rfl) (by decide) (fun K hK => ?_)
  refine goes_ Try.func27 (by kernel_rfl) rfl #[.agg #[.bool a0_0, .slice A0_1 l0_1.length c0_1, .int .i64 a0_2]] (by rfl) rfl rfl (by (try simp only [List.map_toArray, List.map_cons, List.map_nil]); first | done | rfl | (simp only [List.length_drop, List.length_take]; rfl)) ?_
  with_reducible refine (spec_DecimalSign.calls a0_0 _ _ l0_1 a0_2 t152 _ ?side1 ?side2 A3.out).mono ?_
  (case side1 => repeat (first | exact (Kd.C_below HR0_1.out HB.out) | (with_reducible refine Kd.C_alloc ?_ _) | (with_reducible refine Kd.C_drewN ?_ _) | (with_reducible refine Kd.C_drew ?_)))
  (case side2 => exact HC0_1.out)
  rintro e w9 ⟨rfl, hb⟩
  refine ⟨_, rfl, ?_⟩
  have n0_ := Aside0.mk (blk_below (g := gb150) (o := .cells #[.bool a0_0, .slice A0_1 l0_1.length c0_1, .int .i64 a0_2] 24 (0, 0)) (by (with_reducible repeat (first | refine blk_drewN ?_ _ | refine blk_drew ?_ | refine blk_alloc ?_ _)); exact BK150.out) hb)
  have n1_ := Aside0.mk (blk_below (g := gb151) (o := .cells #[.bool a1_0, .slice A1_1 l1_1.length c1_1, .int .i64 a1_2] 24 (0, 0)) (by (with_reducible repeat (first | refine blk_drewN ?_ _ | refine blk_drew ?_ | refine blk_alloc ?_ _)); exact BK151.out) hb)
  have n2_ := Aside0.mk (below_step (by repeat (first | (with_reducible first | exact HB.out | apply below_alloc | apply pw_below_drewN | apply below_drew1 | refine below_set ?_ GE150.out | refine below_set ?_ GE151.out) | exact HB.out)) hb)
  clear BK150
  clear BK151
  clear HB
  have BK150 := n0_
  have BK151 := n1_
  have HB := n2_
  clear n0_ n1_ n2_
  (try clear hb)
  (try clear hb2)
  (try clear hk)
  (try clear hi)
  refine hK.out _ _ ⟨(blk_cell BK150.out 0).trans rfl, (blk_cell BK150.out 1).trans rfl, (blk_cell BK150.out 2).trans rfl, (blk_cell BK151.out 0).trans rfl, (blk_cell BK151.out 1).trans rfl, (blk_cell BK151.out 2).trans rfl⟩ (fun hHeld => ?_)
  clear hK K
  refine norm_ (a' := ?_) ?_ ?_
  rotate_left
  · show Act.put _ (some 8) _ = _
    simp only [Act.put, List.setIfInBounds_toArray, List.set_cons_zero, List.set_cons_succ, i64_w, i32_w]
    rfl
  refine one_ (i := 3) (N := some 10) #[true, true, true, true, false, false] rfl rfl (by kernel_rfl) (by decide) (fun K hK => ?_)
  refine goes_ Try.func27 (by kernel_rfl) rfl #[.agg #[.bool a1_0, .slice A1_1 l1_1.length c1_1, .int .i64 a1_2]] (by rfl) rfl rfl (by (try simp only [List.map_toArray, List.map_cons, List.map_nil]); first | done | rfl | (simp only [List.length_drop, List.length_take]; rfl)) ?_
  with_reducible refine (spec_DecimalSign.calls a1_0 _ _ l1_1 a1_2 t153 _ ?side1 ?side2 A4.out).mono ?_
  (case side1 => repeat (first | exact (Kd.C_below HR1_1.out HB.out) | (with_reducible refine Kd.C_alloc ?_ _) | (with_reducible refine Kd.C_drewN ?_ _) | (with_reducible refine Kd.C_drew ?_)))
  (case side2 => exact HC1_1.out)
  rintro e w10 ⟨rfl, hb⟩
  refine ⟨_, rfl, ?_⟩
  have n0_ := Aside0.mk (blk_below (g := gb150) (o := .cells #[.bool a0_0, .slice A0_1 l0_1.length c0_1, .int .i64 a0_2] 24 (0, 0)) (by (with_reducible repeat (first | refine blk_drewN ?_ _ | refine blk_drew ?_ | refine blk_alloc ?_ _)); exact BK150.out) hb)
  have n1_ := Aside0.mk (blk_below (g := gb151) (o := .cells #[.bool a1_0, .slice A1_1 l1_1.length c1_1, .int .i64 a1_2] 24 (0, 0)) (by (with_reducible repeat (first | refine blk_drewN ?_ _ | refine blk_drew ?_ | refine blk_alloc ?_ _)); exact BK151.out) hb)
  have n2_ := Aside0.mk (below_step (by repeat (first | (with_reducible first | exact HB.out | apply below_alloc | apply pw_below_drewN | apply below_drew1 | refine below_set ?_ GE150.out | refine below_set ?_ GE151.out) | exact HB.out)) hb)
  clear BK150
  clear BK151
  clear HB
  have BK150 := n0_
  have BK151 := n1_
  have HB := n2_
  clear n0_ n1_ n2_
  (try clear hb)
  (try clear hb2)
  (try clear hk)
  (try clear hi)
  refine hK.out _ _ ⟨(blk_cell BK150.out 0).trans rfl, (blk_cell BK150.out 1).trans rfl, (blk_cell BK150.out 2).trans rfl, (blk_cell BK151.out 0).trans rfl, (blk_cell BK151.out 1).trans rfl, (blk_cell BK151.out 2).trans rfl⟩ (fun hHeld => ?_)
  clear hK K
  refine norm_ (a' := ?_) ?_ ?_
  rotate_left
  · show Act.put _ (some 10) _ = _
    simp only [Act.put, List.setIfInBounds_toArray, List.set_cons_zero, List.set_cons_succ, i64_w, i32_w]
    rfl
  refine pure_ (i := 4) (N := some 5) (v := ?_) (a' := ?_) #[true, true, true, true, true, false] rfl rfl (by kernel_rfl) (fun _ _ _ h => h) (Or.inl ⟨by rfl, ?_⟩) ?_ ?_
  rotate_left
  · intro w'
    go_simp
    with_reducible rfl
  rotate_left
  · simp only [Act.put, List.setIfInBounds_toArray, List.set_cons_zero, List.set_cons_succ, i64_w, i32_w]
    rfl
  refine pure_ (i := 5) (N := some 6) (v := ?_) (a' := ?_) #[true, true, true, true, true, true] rfl rfl (by kernel_rfl) (fun _ _ _ h => h) (Or.inl ⟨by rfl, ?_⟩) ?_ ?_
  rotate_left
  · intro w'
    go_simp
    with_reducible rfl
  rotate_left
  · simp only [Act.put, List.setIfInBounds_toArray, List.set_cons_zero, List.set_cons_succ, i64_w, i32_w]
    rfl
  refine done_ (by kernel_rfl) ?_
  go_upto_region 2 with (fail)
  go_cut [11] (fun v11 wc => ∃ (kq : Nat) (x11_4 : Bool), v11 = .bool x11_4 ∧ Aside0 (spec_DecimalCmp.j0 kq t152 t153 x11_4 a0_0 l0_1 a0_2 a1_0 l1_1 a1_2 = some r) ∧ Aside0 (kq ≤ k) ∧ Aside0 (wc.heap[gb150]? = some (.cells #[.bool a0_0, (.slice A0_1 l0_1.length c0_1), .int .i64 a0_2] 24 (0, 0))) ∧ Aside0 (wc.heap[gb151]? = some (.cells #[.bool a1_0, (.slice A1_1 l1_1.length c1_1), .int .i64 a1_2] 24 (0, 0))) ∧ Aside0 (Below w.heap.size w wc))
  case first =>
    have H := HC5.out
    clear HC5
    by_cases c11 : t152 = t153
    · rw [if_pos c11] at H
      have c11b0 : (t152 == t153) = true := beq_iff_eq.mpr c11
      have c11b1 : (t152 != t153) = false := bne_eq_false_iff_eq.mpr c11
      clear c11
      (first | rw [c11b0] | (simp only [i64_w, i32_w]; rw [c11b0]) | skip)
      have H' := Aside0.mk H
      clear H
      go_wp2
      go_meet
      case rel => exact ⟨_, (false), (by first | rfl | (simp; done) | (simp [*]; done)), H', ⟨by first | omega | exact Nat.le_refl _⟩, ⟨by (with_reducible repeat (first | refine blk_drewN ?_ _ | refine blk_drew ?_ | refine blk_alloc ?_ _)); exact BK150.out⟩, ⟨by (with_reducible repeat (first | refine blk_drewN ?_ _ | refine blk_drew ?_ | refine blk_alloc ?_ _)); exact BK151.out⟩, ⟨by repeat (first | (with_reducible first | exact HB.out | apply below_alloc | apply pw_below_drewN | apply below_drew1 | refine below_set ?_ GE150.out | refine below_set ?_ GE151.out) | exact HB.out)⟩⟩
    · rw [if_neg c11] at H
      have c11b0 : (t152 == t153) = false := beq_eq_false_iff_ne.mpr c11
      have c11b1 : (t152 != t153) = true := bne_iff_ne.mpr c11
      (first | rw [c11b0] | (simp only [i64_w, i32_w]; rw [c11b0]) | skip)
      have H' := Aside0.mk H
      clear H
      go_wp2
      go_meet
      case rel => exact ⟨_, (decide (t152 < t153)), (by first | rfl | (simp; done) | (simp [*]; done)), H', ⟨by first | omega | exact Nat.le_refl _⟩, ⟨by (with_reducible repeat (first | refine blk_drewN ?_ _ | refine blk_drew ?_ | refine blk_alloc ?_ _)); exact BK150.out⟩, ⟨by (with_reducible repeat (first | refine blk_drewN ?_ _ | refine blk_drew ?_ | refine blk_alloc ?_ _)); exact BK151.out⟩, ⟨by repeat (first | (with_reducible first | exact HB.out | apply below_alloc | apply pw_below_drewN | apply below_drew1 | refine below_set ?_ GE150.out | refine below_set ?_ GE151.out) | exact HB.out)⟩⟩
  case rest =>
    clear HC5
    try clear c1
    try clear c2
    try clear p2
    try clear c4
    try clear c11
    try clear c11b0
    try clear c11b1
    obtain ⟨kq, x11_4, rfl, HA, HJ4, BK150, BK151, HB⟩ := hcut
    cases kq with
    | zero => exact absurd HA.out (by simp [spec_DecimalCmp.j0])
    | succ kj4 =>
      have H := HA.out
      clear HA
      simp only [spec_DecimalCmp.j0] at H
      by_cases c12 : x11_4 = true
      · subst c12
        have H1 : (some (-1)) = some r := by rw [if_pos rfl] at H; exact H
        clear H
        have H := H1
        clear H1
        obtain rfl := Option.some.inj H
        go_wp2
        go_ret
        exact ⟨by first | rfl | (simp [errW_none, errW_some] <;> rfl) | (simp [*, errW_none, errW_some] <;> rfl), by repeat (first | (with_reducible first | exact HB.out | apply below_alloc | apply pw_below_drewN | apply below_drew1 | refine below_set ?_ GE150.out | refine below_set ?_ GE151.out) | exact HB.out)⟩
      · replace c12 := Bool.eq_false_iff.mpr c12
        subst c12
        have H1 : (if t152 = t153 then (if t152 < 0 then ((spec_larger.f kj4 a0_0 l0_1 a0_2 a1_0 l1_1 a1_2).bind fun t154 => (some (wrap64 (-t154)))) else (if t152 > 0 then ((spec_larger.f kj4 a0_0 l0_1 a0_2 a1_0 l1_1 a1_2).bind fun t155 => (some t155)) else (some 0))) else (some 1)) = some r := by rw [if_neg (show ¬ (false = true) by decide)] at H; exact H
        clear H
        have H := H1
        clear H1
        by_cases c13 : t152 = t153
        · rw [if_pos c13] at H
          have c13b0 : (t152 == t153) = true := beq_iff_eq.mpr c13
          have c13b1 : (t152 != t153) = false := bne_eq_false_iff_eq.mpr c13
          clear c13
          by_cases c14 : t152 < 0
          · rw [if_pos c14] at H
            have c14b0 : decide (t152 < 0) = true := decide_eq_true c14
            clear c14
            replace H := Option.bind_eq_some_iff.mp H
            obtain ⟨t154, A150, H⟩ := H
            replace H : (some (wrap64 (-t154))) = some r := H
            have A15 := Aside0.mk A150
            clear A150
            obtain rfl := Option.some.inj H
            have hnb16 := NB150_151.out
            have hnc16 := NB151_150.out
            have hcz17_0 : wc.cell? ⟨gb150, 0, none⟩ = some (.bool a0_0) := (blk_cell BK150.out 0).trans rfl
            have hcz17_1 : wc.cell? ⟨gb150, 1, none⟩ = some (.slice A0_1 l0_1.length c0_1) := (blk_cell BK150.out 1).trans rfl
            have hcz17_2 : wc.cell? ⟨gb150, 2, none⟩ = some (.int .i64 a0_2) := (blk_cell BK150.out 2).trans rfl
            have hfz17_0 := blk_frozen BK150.out 0
            have hfz17_1 := blk_frozen BK150.out 1
            have hfz17_2 := blk_frozen BK150.out 2
            have hcz18_0 : wc.cell? ⟨gb151, 0, none⟩ = some (.bool a1_0) := (blk_cell BK151.out 0).trans rfl
            have hcz18_1 : wc.cell? ⟨gb151, 1, none⟩ = some (.slice A1_1 l1_1.length c1_1) := (blk_cell BK151.out 1).trans rfl
            have hcz18_2 : wc.cell? ⟨gb151, 2, none⟩ = some (.int .i64 a1_2) := (blk_cell BK151.out 2).trans rfl
            have hfz18_0 := blk_frozen BK151.out 0
            have hfz18_1 := blk_frozen BK151.out 1
            have hfz18_2 := blk_frozen BK151.out 2
            go_wp2_with (first | ((with_reducible refine gate_callee (f := 30) rfl ?_); refine goesL_ (some 29) rfl rfl Try.func30 (by kernel_rfl) rfl #[.agg #[.bool a0_0, .slice A0_1 l0_1.length c0_1, .int .i64 a0_2], .agg #[.bool a1_0, .slice A1_1 l1_1.length c1_1, .int .i64 a1_2]] rfl (by (try simp only [List.map_toArray, List.map_cons, List.map_nil]); first | done | rfl | (simp only [List.length_drop, List.length_take]; rfl)) ?_; (with_reducible refine (spec_larger.calls kj4 a0_0 _ _ l0_1 a0_2 a1_0 _ _ l1_1 a1_2 t154 _ ?side1 ?side2 ?side3 ?side4 A15.out).mono ?_); (case side1 => repeat (first | exact (Kd.C_below HR0_1.out HB.out) | (with_reducible refine Kd.C_alloc ?_ _) | (with_reducible refine Kd.C_drewN ?_ _) | (with_reducible refine Kd.C_drew ?_))); (case side2 => exact HC0_1.out); (case side3 => repeat (first | exact (Kd.C_below HR1_1.out HB.out) | (with_reducible refine Kd.C_alloc ?_ _) | (with_reducible refine Kd.C_drewN ?_ _) | (with_reducible refine Kd.C_drew ?_))); (case side4 => exact HC1_1.out); rintro e w19 ⟨rfl, hb⟩; refine ⟨_, rfl, ?_⟩; have n0_ := Aside0.mk (blk_below (g := gb150) (o := .cells #[.bool a0_0, .slice A0_1 l0_1.length c0_1, .int .i64 a0_2] 24 (0, 0)) (by (with_reducible repeat (first | refine blk_drewN ?_ _ | refine blk_drew ?_ | refine blk_alloc ?_ _)); exact BK150.out) hb); have n1_ := Aside0.mk (blk_below (g := gb151) (o := .cells #[.bool a1_0, .slice A1_1 l1_1.length c1_1, .int .i64 a1_2] 24 (0, 0)) (by (with_reducible repeat (first | refine blk_drewN ?_ _ | refine blk_drew ?_ | refine blk_alloc ?_ _)); exact BK151.out) hb); have n2_ := Aside0.mk (below_step (by repeat (first | (with_reducible first | exact HB.out | apply below_alloc | apply pw_below_drewN | apply below_drew1 | refine below_set ?_ GE150.out | refine below_set ?_ GE151.out) | exact HB.out)) hb); clear BK150; clear BK151; clear HB; have BK150 := n0_; have BK151 := n1_; have HB := n2_; clear n0_ n1_ n2_; (try clear hb); (try clear hb2); (try clear hk); (try clear hi)))
            go_ret
            exact ⟨by first | rfl | (simp [errW_none, errW_some] <;> rfl) | (simp [*, errW_none, errW_some] <;> rfl), by repeat (first | (with_reducible first | exact HB.out | apply below_alloc | apply pw_below_drewN | apply below_drew1 | refine below_set ?_ GE150.out | refine below_set ?_ GE151.out) | exact HB.out)⟩
          · rw [if_neg c14] at H
            have c14b0 : decide (t152 < 0) = false := decide_eq_false c14
            clear c14
            by_cases c20 : t152 > 0
            · rw [if_pos c20] at H
              have c20b0 : decide (0 < t152) = true := decide_eq_true c20
              clear c20
              replace H := Option.bind_eq_some_iff.mp H
              obtain ⟨t155, A210, H⟩ := H
              replace H : (some t155) = some r := H
              have A21 := Aside0.mk A210
              clear A210
              obtain rfl := Option.some.inj H
              have hnb22 := NB150_151.out
              have hnc22 := NB151_150.out
              have hcz23_0 : wc.cell? ⟨gb150, 0, none⟩ = some (.bool a0_0) := (blk_cell BK150.out 0).trans rfl
              have hcz23_1 : wc.cell? ⟨gb150, 1, none⟩ = some (.slice A0_1 l0_1.length c0_1) := (blk_cell BK150.out 1).trans rfl
              have hcz23_2 : wc.cell? ⟨gb150, 2, none⟩ = some (.int .i64 a0_2) := (blk_cell BK150.out 2).trans rfl
              have hfz23_0 := blk_frozen BK150.out 0
              have hfz23_1 := blk_frozen BK150.out 1
              have hfz23_2 := blk_frozen BK150.out 2
              have hcz24_0 : wc.cell? ⟨gb151, 0, none⟩ = some (.bool a1_0) := (blk_cell BK151.out 0).trans rfl
              have hcz24_1 : wc.cell? ⟨gb151, 1, none⟩ = some (.slice A1_1 l1_1.length c1_1) := (blk_cell BK151.out 1).trans rfl
              have hcz24_2 : wc.cell? ⟨gb151, 2, none⟩ = some (.int .i64 a1_2) := (blk_cell BK151.out 2).trans rfl
              have hfz24_0 := blk_frozen BK151.out 0
              have hfz24_1 := blk_frozen BK151.out 1
              have hfz24_2 := blk_frozen BK151.out 2
              go_wp2_with (first | ((with_reducible refine gate_callee (f := 30) rfl ?_); refine goesL_ (some 36) rfl rfl Try.func30 (by kernel_rfl) rfl #[.agg #[.bool a0_0, .slice A0_1 l0_1.length c0_1, .int .i64 a0_2], .agg #[.bool a1_0, .slice A1_1 l1_1.length c1_1, .int .i64 a1_2]] rfl (by (try simp only [List.map_toArray, List.map_cons, List.map_nil]); first | done | rfl | (simp only [List.length_drop, List.length_take]; rfl)) ?_; (with_reducible refine (spec_larger.calls kj4 a0_0 _ _ l0_1 a0_2 a1_0 _ _ l1_1 a1_2 t155 _ ?side1 ?side2 ?side3 ?side4 A21.out).mono ?_); (case side1 => repeat (first | exact (Kd.C_below HR0_1.out HB.out) | (with_reducible refine Kd.C_alloc ?_ _) | (with_reducible refine Kd.C_drewN ?_ _) | (with_reducible refine Kd.C_drew ?_))); (case side2 => exact HC0_1.out); (case side3 => repeat (first | exact (Kd.C_below HR1_1.out HB.out) | (with_reducible refine Kd.C_alloc ?_ _) | (with_reducible refine Kd.C_drewN ?_ _) | (with_reducible refine Kd.C_drew ?_))); (case side4 => exact HC1_1.out); rintro e w25 ⟨rfl, hb⟩; refine ⟨_, rfl, ?_⟩; have n0_ := Aside0.mk (blk_below (g := gb150) (o := .cells #[.bool a0_0, .slice A0_1 l0_1.length c0_1, .int .i64 a0_2] 24 (0, 0)) (by (with_reducible repeat (first | refine blk_drewN ?_ _ | refine blk_drew ?_ | refine blk_alloc ?_ _)); exact BK150.out) hb); have n1_ := Aside0.mk (blk_below (g := gb151) (o := .cells #[.bool a1_0, .slice A1_1 l1_1.length c1_1, .int .i64 a1_2] 24 (0, 0)) (by (with_reducible repeat (first | refine blk_drewN ?_ _ | refine blk_drew ?_ | refine blk_alloc ?_ _)); exact BK151.out) hb); have n2_ := Aside0.mk (below_step (by repeat (first | (with_reducible first | exact HB.out | apply below_alloc | apply pw_below_drewN | apply below_drew1 | refine below_set ?_ GE150.out | refine below_set ?_ GE151.out) | exact HB.out)) hb); clear BK150; clear BK151; clear HB; have BK150 := n0_; have BK151 := n1_; have HB := n2_; clear n0_ n1_ n2_; (try clear hb); (try clear hb2); (try clear hk); (try clear hi)))
              go_ret
              exact ⟨by first | rfl | (simp [errW_none, errW_some] <;> rfl) | (simp [*, errW_none, errW_some] <;> rfl), by repeat (first | (with_reducible first | exact HB.out | apply below_alloc | apply pw_below_drewN | apply below_drew1 | refine below_set ?_ GE150.out | refine below_set ?_ GE151.out) | exact HB.out)⟩
            · rw [if_neg c20] at H
              have c20b0 : decide (0 < t152) = false := decide_eq_false c20
              clear c20
              obtain rfl := Option.some.inj H
              go_wp2
              go_ret
              exact ⟨by first | rfl | (simp [errW_none, errW_some] <;> rfl) | (simp [*, errW_none, errW_some] <;> rfl), by repeat (first | (with_reducible first | exact HB.out | apply below_alloc | apply pw_below_drewN | apply below_drew1 | refine below_set ?_ GE150.out | refine below_set ?_ GE151.out) | exact HB.out)⟩
        · rw [if_neg c13] at H
          have c13b0 : (t152 == t153) = false := beq_eq_false_iff_ne.mpr c13
          have c13b1 : (t152 != t153) = true := bne_iff_ne.mpr c13
          obtain rfl := Option.some.inj H
          go_wp2
          go_ret
          exact ⟨by first | rfl | (simp [errW_none, errW_some] <;> rfl) | (simp [*, errW_none, errW_some] <;> rfl), by repeat (first | (with_reducible first | exact HB.out | apply below_alloc | apply pw_below_drewN | apply below_drew1 | refine below_set ?_ GE150.out | refine below_set ?_ GE151.out) | exact HB.out)⟩

/-! ### laws_amountIs: function 21 -/
def laws_amountIs.f (k : Nat) (a0_0 : Int) (a0_1 : Int) (a1_0 : Bool) (l1_1 : List Int) (a1_2 : Int) : Option (Bool) := (laws_amountOf.f k a0_0 a0_1).bind fun bt158 => (if bt158.2.2.2 = true then ((spec_DecimalCmp.f k bt158.1 bt158.2.1 bt158.2.2.1 a1_0 l1_1 a1_2).bind fun t165 => (some (t165 == 0))) else (some false))
theorem laws_amountIs.mono : ∀ a0 a1 a2 a3 a4 k, LeO (laws_amountIs.f k a0 a1 a2 a3 a4) (laws_amountIs.f (k + 1) a0 a1 a2 a3 a4) := by
  intro a0 a1 a2 a3 a4 k
  unfold laws_amountIs.f
  repeat' first
      | (with_reducible exact laws_amountOf.mono _ _ _)
      | (with_reducible exact spec_DecimalCmp.mono _ _ _ _ _ _ _)
      | (with_reducible exact LeO.refl _)
      | (with_reducible exact LeO.none _)
      | (with_reducible refine LeO.ite ?_ ?_)
      | (with_reducible refine LeO.bind ?_ (fun _ => ?_))
      | exact laws_amountOf.mono _ _ _
      | exact spec_DecimalCmp.mono _ _ _ _ _ _ _
      | exact LeO.none _
      | refine LeO.ite ?_ ?_
      | refine LeO.bind ?_ (fun _ => ?_)
set_option maxHeartbeats 8000000 in
set_option maxRecDepth 100000 in
theorem laws_amountIs.calls (k : Nat) (a0_0 : Int) (a0_1 : Int) (a1_0 : Bool) (A1_1 : Option Addr) (c1_1 : Nat) (l1_1 : List Int) (a1_2 : Int) (r : Bool) (w : World) (hr1_1 : Kd.C (Kd.int .i64) w A1_1 l1_1.length l1_1) (hc1_1 : l1_1.length ≤ c1_1) (h : laws_amountIs.f k a0_0 a0_1 a1_0 l1_1 a1_2 = some r) :
    Calls Try.prog 21 #[.agg #[.int .i64 a0_0, .int .i64 a0_1], .agg #[.bool a1_0, .slice A1_1 l1_1.length c1_1, .int .i64 a1_2]] w fun e w' => e = .returned (.bool r) ∧ Below w.heap.size w w' := by
  have hu40 := Try.underlying40
  have hu24 := Try.underlying24
  have HR1_1 := Aside0.mk hr1_1
  have HC1_1 := Aside0.mk hc1_1
  clear hr1_1 hc1_1
  have HB := Aside0.mk (Below.refl w.heap.size w)
  have H : ((laws_amountOf.f k a0_0 a0_1).bind fun bt158 => (if bt158.2.2.2 = true then ((spec_DecimalCmp.f k bt158.1 bt158.2.1 bt158.2.2.1 a1_0 l1_1 a1_2).bind fun t165 => (some (t165 == 0))) else (some false))) = some r := h
  clear h
  replace H := Option.bind_eq_some_iff.mp H
  obtain ⟨⟨t158, t159, t162, t163⟩, A30, H⟩ := H
  replace H : (if t163 = true then ((spec_DecimalCmp.f k t158 t159 t162 a1_0 l1_1 a1_2).bind fun t165 => (some (t165 == 0))) else (some false)) = some r := H
  have A3 := Aside0.mk A30
  clear A30
  by_cases c4 : t163 = true
  · subst c4
    have H1 : ((spec_DecimalCmp.f k t158 t159 t162 a1_0 l1_1 a1_2).bind fun t165 => (some (t165 == 0))) = some r := by rw [if_pos rfl] at H; exact H
    clear H
    have H := H1
    clear H1
    replace H := Option.bind_eq_some_iff.mp H
    obtain ⟨t165, A50, H⟩ := H
    replace H : (some (t165 == 0)) = some r := H
    have A5 := Aside0.mk A50
    clear A50
    obtain rfl := Option.some.inj H
    go_enter Try.func21, Try.ntmps21
    go_wp2_with (first | ((with_reducible refine gate_dst (N := 2) rfl ?_); refine box_event ?hg (N := 2) ?hd (cs := #[.int .i64 a0_0, .int .i64 a0_1]) (t := 40) ?hr ?_; (case hd => rfl); (case hg => rfl); (case hr => first | (go_simp; done) | (go_simp; rfl)); intro gb156 hg w6 hbox hb; have n0_ := Aside0.mk (below_step (by repeat (first | (with_reducible first | exact HB.out | apply below_alloc | apply pw_below_drewN | apply below_drew1) | exact HB.out)) hb); have n1_ := Aside0.mk (hbox); have n2_ := Aside0.mk ((by rw [hg]; exact (below_size (by repeat (first | (with_reducible first | exact HB.out | apply below_alloc | apply pw_below_drewN | apply below_drew1) | exact HB.out))) : w.heap.size ≤ gb156)); have n3_ := Aside0.mk ((by rw [hg]; exact (below_size (by repeat (first | (with_reducible first | exact HB.out | apply below_alloc | apply pw_below_drewN | apply below_drew1) | exact HB.out))) : w.heap.size ≤ gb156)); clear HB; have HB := n0_; have BK156 := n1_; have GW156 := n2_; have GE156 := n3_; clear n0_ n1_ n2_ n3_; clear hb hbox hg) | ((with_reducible refine gate_dst (N := 3) rfl ?_); refine box_event ?hg (N := 3) ?hd (cs := #[.bool a1_0, .slice A1_1 l1_1.length c1_1, .int .i64 a1_2]) (t := 24) ?hr ?_; (case hd => rfl); (case hg => rfl); (case hr => first | (go_simp; done) | (go_simp; rfl)); intro gb157 hg w7 hbox hb; have n0_ := Aside0.mk (blk_below (g := gb156) (o := .cells #[.int .i64 a0_0, .int .i64 a0_1] 40 (0, 0)) (by (with_reducible repeat (first | refine blk_drewN ?_ _ | refine blk_drew ?_ | refine blk_alloc ?_ _)); exact BK156.out) hb); have n1_ := Aside0.mk (below_step (by repeat (first | (with_reducible first | exact HB.out | apply below_alloc | apply pw_below_drewN | apply below_drew1 | refine below_set ?_ GE156.out) | exact HB.out)) hb); have n2_ := Aside0.mk (hbox); have n3_ := Aside0.mk ((by rw [hg]; exact (below_size (by repeat (first | (with_reducible first | exact HB.out | apply below_alloc | apply pw_below_drewN | apply below_drew1 | refine below_set ?_ GE156.out) | exact HB.out))) : w.heap.size ≤ gb157)); have n4_ := Aside0.mk ((by rw [hg]; exact (below_size (by repeat (first | (with_reducible first | exact HB.out | apply below_alloc | apply pw_below_drewN | apply below_drew1 | refine below_set ?_ GE156.out) | exact HB.out))) : w.heap.size ≤ gb157)); have n5_ := Aside0.mk ((by rw [hg]; exact Nat.ne_of_lt (blk_lt (g := gb156) (o := .cells #[.int .i64 a0_0, .int .i64 a0_1] 40 (0, 0)) (by (with_reducible repeat (first | refine blk_drewN ?_ _ | refine blk_drew ?_ | refine blk_alloc ?_ _)); exact BK156.out)) : gb156 ≠ gb157)); have n6_ := Aside0.mk ((by rw [hg]; exact Nat.ne_of_gt (blk_lt (g := gb156) (o := .cells #[.int .i64 a0_0, .int .i64 a0_1] 40 (0, 0)) (by (with_reducible repeat (first | refine blk_drewN ?_ _ | refine blk_drew ?_ | refine blk_alloc ?_ _)); exact BK156.out)) : gb157 ≠ gb156)); clear BK156; clear HB; have BK156 := n0_; have HB := n1_; have BK157 := n2_; have GW157 := n3_; have GE157 := n4_; have NB156_157 := n5_; have NB157_156 := n6_; clear n0_ n1_ n2_ n3_ n4_ n5_ n6_; clear hb hbox hg; have hnb8 := NB156_157.out; have hnc8 := NB157_156.out; have hcz9_0 : w7.cell? ⟨gb156, 0, none⟩ = some (.int .i64 a0_0) := (blk_cell BK156.out 0).trans rfl; have hcz9_1 : w7.cell? ⟨gb156, 1, none⟩ = some (.int .i64 a0_1) := (blk_cell BK156.out 1).trans rfl; have hfz9_0 := blk_frozen BK156.out 0; have hfz9_1 := blk_frozen BK156.out 1) | ((with_reducible refine gate_callee (f := 18) rfl ?_); refine goesL_ (some 9) rfl rfl Try.func18 (by kernel_rfl) rfl #[.agg #[.int .i64 a0_0, .int .i64 a0_1]] rfl (by (try simp only [List.map_toArray, List.map_cons, List.map_nil]); first | done | rfl | (simp only [List.length_drop, List.length_take]; rfl)) ?_; (with_reducible refine (laws_amountOf.calls k a0_0 a0_1 t158 t159 t162 true _ A3.out).mono ?_); rintro e w10 ⟨v160, rfl, ho0, hb⟩; refine ⟨_, rfl, ?_⟩; have n0_ := Aside0.mk (Kd.R_lower ho0 (below_size (by repeat (first | (with_reducible first | exact HB.out | apply below_alloc | apply pw_below_drewN | apply below_drew1 | refine below_set ?_ GE156.out | refine below_set ?_ GE157.out) | exact HB.out)))); have n1_ := Aside0.mk (blk_below (g := gb156) (o := .cells #[.int .i64 a0_0, .int .i64 a0_1] 40 (0, 0)) (by (with_reducible repeat (first | refine blk_drewN ?_ _ | refine blk_drew ?_ | refine blk_alloc ?_ _)); exact BK156.out) hb); have n2_ := Aside0.mk (blk_below (g := gb157) (o := .cells #[.bool a1_0, .slice A1_1 l1_1.length c1_1, .int .i64 a1_2] 24 (0, 0)) (by (with_reducible repeat (first | refine blk_drewN ?_ _ | refine blk_drew ?_ | refine blk_alloc ?_ _)); exact BK157.out) hb); have n3_ := Aside0.mk (below_step (by repeat (first | (with_reducible first | exact HB.out | apply below_alloc | apply pw_below_drewN | apply below_drew1 | refine below_set ?_ GE156.out | refine below_set ?_ GE157.out) | exact HB.out)) hb); clear BK156; clear BK157; clear HB; have HO161 := n0_; have BK156 := n1_; have BK157 := n2_; have HB := n3_; clear n0_ n1_ n2_ n3_; (try clear hb); (try clear hb2); (try clear hk); (try clear hi); (try clear ho0)) | ((with_reducible refine gate_dst (N := 5) rfl ?_); refine box_event ?hg (N := 5) ?hd (cs := #[.bool false, .slice none 0 0, .int .i64 0]) (t := 24) ?hr ?_; (case hd => rfl); (case hg => rfl); (case hr => first | (go_simp; done) | (go_simp; rfl)); intro gb164 hg w11 hbox hb; have n0_ := Aside0.mk (Kd.R_below (by (with_reducible repeat (first | apply Kd.R_alloc | apply Kd.R_drewN | apply Kd.R_drew)); exact HO161.out) hb); have n1_ := Aside0.mk (blk_below (g := gb156) (o := .cells #[.int .i64 a0_0, .int .i64 a0_1] 40 (0, 0)) (by (with_reducible repeat (first | refine blk_drewN ?_ _ | refine blk_drew ?_ | refine blk_alloc ?_ _)); exact BK156.out) hb); have n2_ := Aside0.mk (blk_below (g := gb157) (o := .cells #[.bool a1_0, .slice A1_1 l1_1.length c1_1, .int .i64 a1_2] 24 (0, 0)) (by (with_reducible repeat (first | refine blk_drewN ?_ _ | refine blk_drew ?_ | refine blk_alloc ?_ _)); exact BK157.out) hb); have n3_ := Aside0.mk (below_step (by repeat (first | (with_reducible first | exact HB.out | apply below_alloc | apply pw_below_drewN | apply below_drew1 | refine below_set ?_ GE156.out | refine below_set ?_ GE157.out) | exact HB.out)) hb); have n4_ := Aside0.mk (hbox); have n5_ := Aside0.mk ((by rw [hg]; exact (below_size (by repeat (first | (with_reducible first | exact HB.out | apply below_alloc | apply pw_below_drewN | apply below_drew1 | refine below_set ?_ GE156.out | refine below_set ?_ GE157.out) | exact HB.out))) : w.heap.size ≤ gb164)); have n6_ := Aside0.mk ((by rw [hg]; exact (below_size (by repeat (first | (with_reducible first | exact HB.out | apply below_alloc | apply pw_below_drewN | apply below_drew1 | refine below_set ?_ GE156.out | refine below_set ?_ GE157.out) | exact HB.out))) : w.heap.size ≤ gb164)); have n7_ := Aside0.mk ((by rw [hg]; exact Nat.ne_of_lt (blk_lt (g := gb156) (o := .cells #[.int .i64 a0_0, .int .i64 a0_1] 40 (0, 0)) (by (with_reducible repeat (first | refine blk_drewN ?_ _ | refine blk_drew ?_ | refine blk_alloc ?_ _)); exact BK156.out)) : gb156 ≠ gb164)); have n8_ := Aside0.mk ((by rw [hg]; exact Nat.ne_of_gt (blk_lt (g := gb156) (o := .cells #[.int .i64 a0_0, .int .i64 a0_1] 40 (0, 0)) (by (with_reducible repeat (first | refine blk_drewN ?_ _ | refine blk_drew ?_ | refine blk_alloc ?_ _)); exact BK156.out)) : gb164 ≠ gb156)); have n9_ := Aside0.mk ((by rw [hg]; exact Nat.ne_of_lt (blk_lt (g := gb157) (o := .cells #[.bool a1_0, .slice A1_1 l1_1.length c1_1, .int .i64 a1_2] 24 (0, 0)) (by (with_reducible repeat (first | refine blk_drewN ?_ _ | refine blk_drew ?_ | refine blk_alloc ?_ _)); exact BK157.out)) : gb157 ≠ gb164)); have n10_ := Aside0.mk ((by rw [hg]; exact Nat.ne_of_gt (blk_lt (g := gb157) (o := .cells #[.bool a1_0, .slice A1_1 l1_1.length c1_1, .int .i64 a1_2] 24 (0, 0)) (by (with_reducible repeat (first | refine blk_drewN ?_ _ | refine blk_drew ?_ | refine blk_alloc ?_ _)); exact BK157.out)) : gb164 ≠ gb157)); clear HO161; clear BK156; clear BK157; clear HB; have HO161 := n0_; have BK156 := n1_; have BK157 := n2_; have HB := n3_; have BK164 := n4_; have GW164 := n5_; have GE164 := n6_; have NB156_164 := n7_; have NB164_156 := n8_; have NB157_164 := n9_; have NB164_157 := n10_; clear n0_ n1_ n2_ n3_ n4_ n5_ n6_ n7_ n8_ n9_ n10_; clear hb hbox hg; have hnb12 := NB164_156.out; have hnc12 := NB156_164.out; have hnb13 := NB164_157.out; have hnc13 := NB157_164.out; have hcz14_0 : w11.cell? ⟨gb164, 0, none⟩ = some (.bool false) := (blk_cell BK164.out 0).trans rfl; have hcz14_1 : w11.cell? ⟨gb164, 1, none⟩ = some (.slice none 0 0) := (blk_cell BK164.out 1).trans rfl; have hcz14_2 : w11.cell? ⟨gb164, 2, none⟩ = some (.int .i64 0) := (blk_cell BK164.out 2).trans rfl; have hfz14_0 := blk_frozen BK164.out 0; have hfz14_1 := blk_frozen BK164.out 1; have hfz14_2 := blk_frozen BK164.out 2; obtain ⟨Ao15, co15, eo15⟩ := Kd.R_slice HO161.out; subst eo15; have hcz16_0 : w11.cell? ⟨gb157, 0, none⟩ = some (.bool a1_0) := (blk_cell BK157.out 0).trans rfl; have hcz16_1 : w11.cell? ⟨gb157, 1, none⟩ = some (.slice A1_1 l1_1.length c1_1) := (blk_cell BK157.out 1).trans rfl; have hcz16_2 : w11.cell? ⟨gb157, 2, none⟩ = some (.int .i64 a1_2) := (blk_cell BK157.out 2).trans rfl; have hfz16_0 := blk_frozen BK157.out 0; have hfz16_1 := blk_frozen BK157.out 1; have hfz16_2 := blk_frozen BK157.out 2) | (go_at_call 44; (with_reducible refine (spec_DecimalCmp.calls k t158 _ _ t159 t162 a1_0 _ _ l1_1 a1_2 t165 _ ?side1 ?side2 ?side3 ?side4 A5.out).mono ?_); (case side1 => refine (Kd.R_reads' (e := 3) (base := w.heap.size) (ok := fun k_ => True) (n := t159.length) (c := co15) ?_).2.2; exact (by (with_reducible repeat (first | apply Kd.R_alloc | apply Kd.R_drewN | apply Kd.R_drew)); exact (Kd.R_mono (Kd.R_far (p := ⟨gb164, 2, none⟩) (Kd.R_far (p := ⟨gb164, 1, none⟩) (Kd.R_far (p := ⟨gb164, 0, none⟩) (Kd.R_types HO161.out BK164.out (by decide)) (fun _ hk => hk.2) (.bool t158)) (fun _ hk => hk.2) (.slice Ao15 t159.length co15)) (fun _ hk => hk.2) (.int .i64 t162)) (fun _ h_ => h_.1)))); (case side2 => exact (Kd.R_reads' HO161.out).2.1); (case side3 => exact Kd.C_below HR1_1.out (by repeat (first | (with_reducible first | exact HB.out | apply below_alloc | apply pw_below_drewN | apply below_drew1 | refine below_set ?_ GE156.out | refine below_set ?_ GE157.out | refine below_set ?_ GE164.out) | exact HB.out))); (case side4 => exact HC1_1.out); rintro e w17 ⟨rfl, hb⟩; have n0_ := Aside0.mk (Kd.R_below (by (with_reducible repeat (first | apply Kd.R_alloc | apply Kd.R_drewN | apply Kd.R_drew)); exact (Kd.R_mono (Kd.R_far (p := ⟨gb164, 2, none⟩) (Kd.R_far (p := ⟨gb164, 1, none⟩) (Kd.R_far (p := ⟨gb164, 0, none⟩) (Kd.R_types HO161.out BK164.out (by decide)) (fun _ hk => hk.2) (.bool t158)) (fun _ hk => hk.2) (.slice Ao15 t159.length co15)) (fun _ hk => hk.2) (.int .i64 t162)) (fun _ h_ => h_.1))) hb); have n1_ := Aside0.mk (blk_below (g := gb156) (o := .cells #[.int .i64 a0_0, .int .i64 a0_1] 40 (0, 0)) (by (with_reducible repeat (first | refine blk_drewN ?_ _ | refine blk_drew ?_ | refine blk_alloc ?_ _)); refine blk_far ?_ NB156_164.out _; (with_reducible repeat (first | refine blk_drewN ?_ _ | refine blk_drew ?_ | refine blk_alloc ?_ _)); refine blk_far ?_ NB156_164.out _; (with_reducible repeat (first | refine blk_drewN ?_ _ | refine blk_drew ?_ | refine blk_alloc ?_ _)); refine blk_far ?_ NB156_164.out _; (with_reducible repeat (first | refine blk_drewN ?_ _ | refine blk_drew ?_ | refine blk_alloc ?_ _)); exact BK156.out) hb); have n2_ := Aside0.mk (blk_below (g := gb157) (o := .cells #[.bool a1_0, .slice A1_1 l1_1.length c1_1, .int .i64 a1_2] 24 (0, 0)) (by (with_reducible repeat (first | refine blk_drewN ?_ _ | refine blk_drew ?_ | refine blk_alloc ?_ _)); refine blk_far ?_ NB157_164.out _; (with_reducible repeat (first | refine blk_drewN ?_ _ | refine blk_drew ?_ | refine blk_alloc ?_ _)); refine blk_far ?_ NB157_164.out _; (with_reducible repeat (first | refine blk_drewN ?_ _ | refine blk_drew ?_ | refine blk_alloc ?_ _)); refine blk_far ?_ NB157_164.out _; (with_reducible repeat (first | refine blk_drewN ?_ _ | refine blk_drew ?_ | refine blk_alloc ?_ _)); exact BK157.out) hb); have n3_ := Aside0.mk (blk_below (g := gb164) (o := .cells #[.bool t158, .slice Ao15 t159.length co15, .int .i64 t162] 24 (0, 0)) (by (with_reducible repeat (first | refine blk_drewN ?_ _ | refine blk_drew ?_ | refine blk_alloc ?_ _)); refine blk_put (cs := #[.bool t158, .slice Ao15 t159.length co15, .int .i64 0]) ?_ 2 _ rfl; (with_reducible repeat (first | refine blk_drewN ?_ _ | refine blk_drew ?_ | refine blk_alloc ?_ _)); refine blk_put (cs := #[.bool t158, .slice none 0 0, .int .i64 0]) ?_ 1 _ rfl; (with_reducible repeat (first | refine blk_drewN ?_ _ | refine blk_drew ?_ | refine blk_alloc ?_ _)); refine blk_put (cs := #[.bool false, .slice none 0 0, .int .i64 0]) ?_ 0 _ rfl; (with_reducible repeat (first | refine blk_drewN ?_ _ | refine blk_drew ?_ | refine blk_alloc ?_ _)); exact BK164.out) hb); have n4_ := Aside0.mk (below_step (by repeat (first | (with_reducible first | exact HB.out | apply below_alloc | apply pw_below_drewN | apply below_drew1 | refine below_set ?_ GE156.out | refine below_set ?_ GE157.out | refine below_set ?_ GE164.out) | exact HB.out)) hb); clear HO161; clear BK156; clear BK157; clear BK164; clear HB; have HO161 := n0_; have BK156 := n1_; have BK157 := n2_; have BK164 := n3_; have HB := n4_; clear n0_ n1_ n2_ n3_ n4_; (try clear hb); (try clear hb2); (try clear hk); (try clear hi)))
    go_ret
    exact ⟨by first | rfl | (simp [errW_none, errW_some] <;> rfl) | (simp [*, errW_none, errW_some] <;> rfl), by repeat (first | (with_reducible first | exact HB.out | apply below_alloc | apply pw_below_drewN | apply below_drew1 | refine below_set ?_ GE156.out | refine below_set ?_ GE157.out | refine below_set ?_ GE164.out) | exact HB.out)⟩
  · replace c4 := Bool.eq_false_iff.mpr c4
    subst c4
    have H1 : (some false) = some r := by rw [if_neg (show ¬ (false = true) by decide)] at H; exact H
    clear H
    have H := H1
    clear H1
    obtain rfl := Option.some.inj H
    go_enter Try.func21, Try.ntmps21
    go_wp2_with (first | ((with_reducible refine gate_dst (N := 2) rfl ?_); refine box_event ?hg (N := 2) ?hd (cs := #[.int .i64 a0_0, .int .i64 a0_1]) (t := 40) ?hr ?_; (case hd => rfl); (case hg => rfl); (case hr => first | (go_simp; done) | (go_simp; rfl)); intro gb156 hg w18 hbox hb; have n0_ := Aside0.mk (below_step (by repeat (first | (with_reducible first | exact HB.out | apply below_alloc | apply pw_below_drewN | apply below_drew1) | exact HB.out)) hb); have n1_ := Aside0.mk (hbox); have n2_ := Aside0.mk ((by rw [hg]; exact (below_size (by repeat (first | (with_reducible first | exact HB.out | apply below_alloc | apply pw_below_drewN | apply below_drew1) | exact HB.out))) : w.heap.size ≤ gb156)); have n3_ := Aside0.mk ((by rw [hg]; exact (below_size (by repeat (first | (with_reducible first | exact HB.out | apply below_alloc | apply pw_below_drewN | apply below_drew1) | exact HB.out))) : w.heap.size ≤ gb156)); clear HB; have HB := n0_; have BK156 := n1_; have GW156 := n2_; have GE156 := n3_; clear n0_ n1_ n2_ n3_; clear hb hbox hg) | ((with_reducible refine gate_dst (N := 3) rfl ?_); refine box_event ?hg (N := 3) ?hd (cs := #[.bool a1_0, .slice A1_1 l1_1.length c1_1, .int .i64 a1_2]) (t := 24) ?hr ?_; (case hd => rfl); (case hg => rfl); (case hr => first | (go_simp; done) | (go_simp; rfl)); intro gb157 hg w19 hbox hb; have n0_ := Aside0.mk (blk_below (g := gb156) (o := .cells #[.int .i64 a0_0, .int .i64 a0_1] 40 (0, 0)) (by (with_reducible repeat (first | refine blk_drewN ?_ _ | refine blk_drew ?_ | refine blk_alloc ?_ _)); exact BK156.out) hb); have n1_ := Aside0.mk (below_step (by repeat (first | (with_reducible first | exact HB.out | apply below_alloc | apply pw_below_drewN | apply below_drew1 | refine below_set ?_ GE156.out) | exact HB.out)) hb); have n2_ := Aside0.mk (hbox); have n3_ := Aside0.mk ((by rw [hg]; exact (below_size (by repeat (first | (with_reducible first | exact HB.out | apply below_alloc | apply pw_below_drewN | apply below_drew1 | refine below_set ?_ GE156.out) | exact HB.out))) : w.heap.size ≤ gb157)); have n4_ := Aside0.mk ((by rw [hg]; exact (below_size (by repeat (first | (with_reducible first | exact HB.out | apply below_alloc | apply pw_below_drewN | apply below_drew1 | refine below_set ?_ GE156.out) | exact HB.out))) : w.heap.size ≤ gb157)); have n5_ := Aside0.mk ((by rw [hg]; exact Nat.ne_of_lt (blk_lt (g := gb156) (o := .cells #[.int .i64 a0_0, .int .i64 a0_1] 40 (0, 0)) (by (with_reducible repeat (first | refine blk_drewN ?_ _ | refine blk_drew ?_ | refine blk_alloc ?_ _)); exact BK156.out)) : gb156 ≠ gb157)); have n6_ := Aside0.mk ((by rw [hg]; exact Nat.ne_of_gt (blk_lt (g := gb156) (o := .cells #[.int .i64 a0_0, .int .i64 a0_1] 40 (0, 0)) (by (with_reducible repeat (first | refine blk_drewN ?_ _ | refine blk_drew ?_ | refine blk_alloc ?_ _)); exact BK156.out)) : gb157 ≠ gb156)); clear BK156; clear HB; have BK156 := n0_; have HB := n1_; have BK157 := n2_; have GW157 := n3_; have GE157 := n4_; have NB156_157 := n5_; have NB157_156 := n6_; clear n0_ n1_ n2_ n3_ n4_ n5_ n6_; clear hb hbox hg; have hnb20 := NB156_157.out; have hnc20 := NB157_156.out; have hcz21_0 : w19.cell? ⟨gb156, 0, none⟩ = some (.int .i64 a0_0) := (blk_cell BK156.out 0).trans rfl; have hcz21_1 : w19.cell? ⟨gb156, 1, none⟩ = some (.int .i64 a0_1) := (blk_cell BK156.out 1).trans rfl; have hfz21_0 := blk_frozen BK156.out 0; have hfz21_1 := blk_frozen BK156.out 1) | ((with_reducible refine gate_callee (f := 18) rfl ?_); refine goesL_ (some 9) rfl rfl Try.func18 (by kernel_rfl) rfl #[.agg #[.int .i64 a0_0, .int .i64 a0_1]] rfl (by (try simp only [List.map_toArray, List.map_cons, List.map_nil]); first | done | rfl | (simp only [List.length_drop, List.length_take]; rfl)) ?_; (with_reducible refine (laws_amountOf.calls k a0_0 a0_1 t158 t159 t162 false _ A3.out).mono ?_); rintro e w22 ⟨v160, rfl, ho0, hb⟩; refine ⟨_, rfl, ?_⟩; have n0_ := Aside0.mk (Kd.R_lower ho0 (below_size (by repeat (first | (with_reducible first | exact HB.out | apply below_alloc | apply pw_below_drewN | apply below_drew1 | refine below_set ?_ GE156.out | refine below_set ?_ GE157.out) | exact HB.out)))); have n1_ := Aside0.mk (blk_below (g := gb156) (o := .cells #[.int .i64 a0_0, .int .i64 a0_1] 40 (0, 0)) (by (with_reducible repeat (first | refine blk_drewN ?_ _ | refine blk_drew ?_ | refine blk_alloc ?_ _)); exact BK156.out) hb); have n2_ := Aside0.mk (blk_below (g := gb157) (o := .cells #[.bool a1_0, .slice A1_1 l1_1.length c1_1, .int .i64 a1_2] 24 (0, 0)) (by (with_reducible repeat (first | refine blk_drewN ?_ _ | refine blk_drew ?_ | refine blk_alloc ?_ _)); exact BK157.out) hb); have n3_ := Aside0.mk (below_step (by repeat (first | (with_reducible first | exact HB.out | apply below_alloc | apply pw_below_drewN | apply below_drew1 | refine below_set ?_ GE156.out | refine below_set ?_ GE157.out) | exact HB.out)) hb); clear BK156; clear BK157; clear HB; have HO161 := n0_; have BK156 := n1_; have BK157 := n2_; have HB := n3_; clear n0_ n1_ n2_ n3_; (try clear hb); (try clear hb2); (try clear hk); (try clear hi); (try clear ho0)) | ((with_reducible refine gate_dst (N := 5) rfl ?_); refine box_event ?hg (N := 5) ?hd (cs := #[.bool false, .slice none 0 0, .int .i64 0]) (t := 24) ?hr ?_; (case hd => rfl); (case hg => rfl); (case hr => first | (go_simp; done) | (go_simp; rfl)); intro gb164 hg w23 hbox hb; have n0_ := Aside0.mk (Kd.R_below (by (with_reducible repeat (first | apply Kd.R_alloc | apply Kd.R_drewN | apply Kd.R_drew)); exact HO161.out) hb); have n1_ := Aside0.mk (blk_below (g := gb156) (o := .cells #[.int .i64 a0_0, .int .i64 a0_1] 40 (0, 0)) (by (with_reducible repeat (first | refine blk_drewN ?_ _ | refine blk_drew ?_ | refine blk_alloc ?_ _)); exact BK156.out) hb); have n2_ := Aside0.mk (blk_below (g := gb157) (o := .cells #[.bool a1_0, .slice A1_1 l1_1.length c1_1, .int .i64 a1_2] 24 (0, 0)) (by (with_reducible repeat (first | refine blk_drewN ?_ _ | refine blk_drew ?_ | refine blk_alloc ?_ _)); exact BK157.out) hb); have n3_ := Aside0.mk (below_step (by repeat (first | (with_reducible first | exact HB.out | apply below_alloc | apply pw_below_drewN | apply below_drew1 | refine below_set ?_ GE156.out | refine below_set ?_ GE157.out) | exact HB.out)) hb); have n4_ := Aside0.mk (hbox); have n5_ := Aside0.mk ((by rw [hg]; exact (below_size (by repeat (first | (with_reducible first | exact HB.out | apply below_alloc | apply pw_below_drewN | apply below_drew1 | refine below_set ?_ GE156.out | refine below_set ?_ GE157.out) | exact HB.out))) : w.heap.size ≤ gb164)); have n6_ := Aside0.mk ((by rw [hg]; exact (below_size (by repeat (first | (with_reducible first | exact HB.out | apply below_alloc | apply pw_below_drewN | apply below_drew1 | refine below_set ?_ GE156.out | refine below_set ?_ GE157.out) | exact HB.out))) : w.heap.size ≤ gb164)); have n7_ := Aside0.mk ((by rw [hg]; exact Nat.ne_of_lt (blk_lt (g := gb156) (o := .cells #[.int .i64 a0_0, .int .i64 a0_1] 40 (0, 0)) (by (with_reducible repeat (first | refine blk_drewN ?_ _ | refine blk_drew ?_ | refine blk_alloc ?_ _)); exact BK156.out)) : gb156 ≠ gb164)); have n8_ := Aside0.mk ((by rw [hg]; exact Nat.ne_of_gt (blk_lt (g := gb156) (o := .cells #[.int .i64 a0_0, .int .i64 a0_1] 40 (0, 0)) (by (with_reducible repeat (first | refine blk_drewN ?_ _ | refine blk_drew ?_ | refine blk_alloc ?_ _)); exact BK156.out)) : gb164 ≠ gb156)); have n9_ := Aside0.mk ((by rw [hg]; exact Nat.ne_of_lt (blk_lt (g := gb157) (o := .cells #[.bool a1_0, .slice A1_1 l1_1.length c1_1, .int .i64 a1_2] 24 (0, 0)) (by (with_reducible repeat (first | refine blk_drewN ?_ _ | refine blk_drew ?_ | refine blk_alloc ?_ _)); exact BK157.out)) : gb157 ≠ gb164)); have n10_ := Aside0.mk ((by rw [hg]; exact Nat.ne_of_gt (blk_lt (g := gb157) (o := .cells #[.bool a1_0, .slice A1_1 l1_1.length c1_1, .int .i64 a1_2] 24 (0, 0)) (by (with_reducible repeat (first | refine blk_drewN ?_ _ | refine blk_drew ?_ | refine blk_alloc ?_ _)); exact BK157.out)) : gb164 ≠ gb157)); clear HO161; clear BK156; clear BK157; clear HB; have HO161 := n0_; have BK156 := n1_; have BK157 := n2_; have HB := n3_; have BK164 := n4_; have GW164 := n5_; have GE164 := n6_; have NB156_164 := n7_; have NB164_156 := n8_; have NB157_164 := n9_; have NB164_157 := n10_; clear n0_ n1_ n2_ n3_ n4_ n5_ n6_ n7_ n8_ n9_ n10_; clear hb hbox hg; have hnb24 := NB164_156.out; have hnc24 := NB156_164.out; have hnb25 := NB164_157.out; have hnc25 := NB157_164.out; have hcz26_0 : w23.cell? ⟨gb164, 0, none⟩ = some (.bool false) := (blk_cell BK164.out 0).trans rfl; have hcz26_1 : w23.cell? ⟨gb164, 1, none⟩ = some (.slice none 0 0) := (blk_cell BK164.out 1).trans rfl; have hcz26_2 : w23.cell? ⟨gb164, 2, none⟩ = some (.int .i64 0) := (blk_cell BK164.out 2).trans rfl; have hfz26_0 := blk_frozen BK164.out 0; have hfz26_1 := blk_frozen BK164.out 1; have hfz26_2 := blk_frozen BK164.out 2; obtain ⟨Ao27, co27, eo27⟩ := Kd.R_slice HO161.out; subst eo27))
    go_ret
    exact ⟨by first | rfl | (simp [errW_none, errW_some] <;> rfl) | (simp [*, errW_none, errW_some] <;> rfl), by repeat (first | (with_reducible first | exact HB.out | apply below_alloc | apply pw_below_drewN | apply below_drew1 | refine below_set ?_ GE156.out | refine below_set ?_ GE157.out | refine below_set ?_ GE164.out) | exact HB.out)⟩

/-! ### resource_ZzAmount: function 41 -/
def resource_ZzAmount.f (a0 : Int) (a1 : Int) : Option (Int × Int) := some (a0, a1)
set_option maxHeartbeats 8000000 in
set_option maxRecDepth 100000 in
theorem resource_ZzAmount.calls (a0 : Int) (a1 : Int) (r1 : Int) (r2 : Int) (w : World) (h : resource_ZzAmount.f a0 a1 = some (r1, r2)) :
    Calls Try.prog 41 #[.int .i64 a0, .int .i32 a1] w fun e w' => e = .returned (.agg #[.int .i64 r1, .int .i32 r2]) ∧ Below w.heap.size w w' := by
  have hu65 := Try.underlying65
  have HB := Aside0.mk (Below.refl w.heap.size w)
  have H : (some (a0, a1)) = some (r1, r2) := h
  clear h
  simp only [Option.some.injEq, Prod.mk.injEq] at H
  obtain ⟨rfl, rfl⟩ := H
  go_enter Try.func41, Try.ntmps41
  go_wp2_with (first | ((with_reducible refine gate_dst (N := 4) rfl ?_); refine box_event ?hg (N := 4) ?hd (cs := #[.int .i64 0, .int .i32 0]) (t := 65) ?hr ?_; (case hd => rfl); (case hg => rfl); (case hr => first | (go_simp; done) | (go_simp; rfl)); intro gb166 hg w3 hbox hb; have n0_ := Aside0.mk (below_step (by repeat (first | (with_reducible first | exact HB.out | apply below_alloc | apply pw_below_drewN | apply below_drew1) | exact HB.out)) hb); have n1_ := Aside0.mk (hbox); have n2_ := Aside0.mk ((by rw [hg]; exact (below_size (by repeat (first | (with_reducible first | exact HB.out | apply below_alloc | apply pw_below_drewN | apply below_drew1) | exact HB.out))) : w.heap.size ≤ gb166)); have n3_ := Aside0.mk ((by rw [hg]; exact (below_size (by repeat (first | (with_reducible first | exact HB.out | apply below_alloc | apply pw_below_drewN | apply below_drew1) | exact HB.out))) : w.heap.size ≤ gb166)); clear HB; have HB := n0_; have BK166 := n1_; have GW166 := n2_; have GE166 := n3_; clear n0_ n1_ n2_ n3_; clear hb hbox hg; have hcz4_0 : w3.cell? ⟨gb166, 0, none⟩ = some (.int .i64 0) := (blk_cell BK166.out 0).trans rfl; have hcz4_1 : w3.cell? ⟨gb166, 1, none⟩ = some (.int .i32 0) := (blk_cell BK166.out 1).trans rfl; have hfz4_0 := blk_frozen BK166.out 0; have hfz4_1 := blk_frozen BK166.out 1))
  refine bodyPost_ret (results_cell_row rfl _ _ gb166 65 #[.int .i64 a0, .int .i32 a1] (0, 0) _ rfl (by (with_reducible repeat (first | refine blk_drewN ?_ _ | refine blk_drew ?_ | refine blk_alloc ?_ _)); refine blk_put (cs := #[.int .i64 a0, .int .i32 0]) ?_ 1 _ rfl; (with_reducible repeat (first | refine blk_drewN ?_ _ | refine blk_drew ?_ | refine blk_alloc ?_ _)); refine blk_put (cs := #[.int .i64 0, .int .i32 0]) ?_ 0 _ rfl; (with_reducible repeat (first | refine blk_drewN ?_ _ | refine blk_drew ?_ | refine blk_alloc ?_ _)); exact BK166.out) Try.underlying65 rfl (by kernel_rfl)) rfl ?_
  exact ⟨by first | rfl | (simp [errW_none, errW_some] <;> rfl) | (simp [*, errW_none, errW_some] <;> rfl), by repeat (first | (with_reducible first | exact HB.out | apply below_alloc | apply pw_below_drewN | apply below_drew1 | refine below_set ?_ GE166.out) | exact HB.out)⟩

/-! ### resource_int64Amount_ZzParts: function 43 -/
def resource_int64Amount_ZzParts.f (a0_0 : Int) (a0_1 : Int) : Option (Int × Int) := some (a0_0, a0_1)
set_option maxHeartbeats 8000000 in
set_option maxRecDepth 100000 in
theorem resource_int64Amount_ZzParts.calls (a0_0 : Int) (a0_1 : Int) (r1 : Int) (r2 : Int) (w : World) (h : resource_int64Amount_ZzParts.f a0_0 a0_1 = some (r1, r2)) :
    Calls Try.prog 43 #[.agg #[.int .i64 a0_0, .int .i32 a0_1]] w fun e w' => e = .returned (.tuple #[.int .i64 r1, .int .i32 r2]) ∧ Below w.heap.size w w' := by
  have hu65 := Try.underlying65
  have HB := Aside0.mk (Below.refl w.heap.size w)
  have H : (some (a0_0, a0_1)) = some (r1, r2) := h
  clear h
  simp only [Option.some.injEq, Prod.mk.injEq] at H
  obtain ⟨rfl, rfl⟩ := H
  go_enter Try.func43, Try.ntmps43
  go_wp2_with (first | ((with_reducible refine gate_dst (N := 1) rfl ?_); refine box_event ?hg (N := 1) ?hd (cs := #[.int .i64 a0_0, .int .i32 a0_1]) (t := 65) ?hr ?_; (case hd => rfl); (case hg => rfl); (case hr => first | (go_simp; done) | (go_simp; rfl)); intro gb167 hg w2 hbox hb; have n0_ := Aside0.mk (below_step (by repeat (first | (with_reducible first | exact HB.out | apply below_alloc | apply pw_below_drewN | apply below_drew1) | exact HB.out)) hb); have n1_ := Aside0.mk (hbox); have n2_ := Aside0.mk ((by rw [hg]; exact (below_size (by repeat (first | (with_reducible first | exact HB.out | apply below_alloc | apply pw_below_drewN | apply below_drew1) | exact HB.out))) : w.heap.size ≤ gb167)); have n3_ := Aside0.mk ((by rw [hg]; exact (below_size (by repeat (first | (with_reducible first | exact HB.out | apply below_alloc | apply pw_below_drewN | apply below_drew1) | exact HB.out))) : w.heap.size ≤ gb167)); clear HB; have HB := n0_; have BK167 := n1_; have GW167 := n2_; have GE167 := n3_; clear n0_ n1_ n2_ n3_; clear hb hbox hg; have hcz3_0 : w2.cell? ⟨gb167, 0, none⟩ = some (.int .i64 a0_0) := (blk_cell BK167.out 0).trans rfl; have hcz3_1 : w2.cell? ⟨gb167, 1, none⟩ = some (.int .i32 a0_1) := (blk_cell BK167.out 1).trans rfl; have hfz3_0 := blk_frozen BK167.out 0; have hfz3_1 := blk_frozen BK167.out 1))
  repeat (go_quiet (first | ((with_reducible refine gate_dst (N := 1) rfl ?_); refine box_event ?hg (N := 1) ?hd (cs := #[.int .i64 a0_0, .int .i32 a0_1]) (t := 65) ?hr ?_; (case hd => rfl); (case hg => rfl); (case hr => first | (go_simp; done) | (go_simp; rfl)); intro gb167 hg w2 hbox hb; have n0_ := Aside0.mk (below_step (by repeat (first | (with_reducible first | exact HB.out | apply below_alloc | apply pw_below_drewN | apply below_drew1) | exact HB.out)) hb); have n1_ := Aside0.mk (hbox); have n2_ := Aside0.mk ((by rw [hg]; exact (below_size (by repeat (first | (with_reducible first | exact HB.out | apply below_alloc | apply pw_below_drewN | apply below_drew1) | exact HB.out))) : w.heap.size ≤ gb167)); have n3_ := Aside0.mk ((by rw [hg]; exact (below_size (by repeat (first | (with_reducible first | exact HB.out | apply below_alloc | apply pw_below_drewN | apply below_drew1) | exact HB.out))) : w.heap.size ≤ gb167)); clear HB; have HB := n0_; have BK167 := n1_; have GW167 := n2_; have GE167 := n3_; clear n0_ n1_ n2_ n3_; clear hb hbox hg; have hcz3_0 : w2.cell? ⟨gb167, 0, none⟩ = some (.int .i64 a0_0) := (blk_cell BK167.out 0).trans rfl; have hcz3_1 : w2.cell? ⟨gb167, 1, none⟩ = some (.int .i32 a0_1) := (blk_cell BK167.out 1).trans rfl; have hfz3_0 := blk_frozen BK167.out 0; have hfz3_1 := blk_frozen BK167.out 1)); try go_wp2_with (first | ((with_reducible refine gate_dst (N := 1) rfl ?_); refine box_event ?hg (N := 1) ?hd (cs := #[.int .i64 a0_0, .int .i32 a0_1]) (t := 65) ?hr ?_; (case hd => rfl); (case hg => rfl); (case hr => first | (go_simp; done) | (go_simp; rfl)); intro gb167 hg w2 hbox hb; have n0_ := Aside0.mk (below_step (by repeat (first | (with_reducible first | exact HB.out | apply below_alloc | apply pw_below_drewN | apply below_drew1) | exact HB.out)) hb); have n1_ := Aside0.mk (hbox); have n2_ := Aside0.mk ((by rw [hg]; exact (below_size (by repeat (first | (with_reducible first | exact HB.out | apply below_alloc | apply pw_below_drewN | apply below_drew1) | exact HB.out))) : w.heap.size ≤ gb167)); have n3_ := Aside0.mk ((by rw [hg]; exact (below_size (by repeat (first | (with_reducible first | exact HB.out | apply below_alloc | apply pw_below_drewN | apply below_drew1) | exact HB.out))) : w.heap.size ≤ gb167)); clear HB; have HB := n0_; have BK167 := n1_; have GW167 := n2_; have GE167 := n3_; clear n0_ n1_ n2_ n3_; clear hb hbox hg; have hcz3_0 : w2.cell? ⟨gb167, 0, none⟩ = some (.int .i64 a0_0) := (blk_cell BK167.out 0).trans rfl; have hcz3_1 : w2.cell? ⟨gb167, 1, none⟩ = some (.int .i32 a0_1) := (blk_cell BK167.out 1).trans rfl; have hfz3_0 := blk_frozen BK167.out 0; have hfz3_1 := blk_frozen BK167.out 1)))
  go_ret2
  exact ⟨by first | rfl | (simp [errW_none, errW_some] <;> rfl) | (simp [*, errW_none, errW_some] <;> rfl), by repeat (first | (with_reducible first | exact HB.out | apply below_alloc | apply pw_below_drewN | apply below_drew1 | refine below_set ?_ GE167.out) | exact HB.out)⟩

/-! ### resource_int64Add: function 50 -/
mutual
def resource_int64Add.j0 : Nat → Int → Int → Int → Bool → Option (Int × Bool)
  | 0, _, _, _, _ => none
  | k + 1, x0, x1, x6, x10 => if x10 = true then (if x6 < 0 then (some (0, false)) else (some (x6, true))) else (if x0 < 0 then (resource_int64Add.j1 k x0 x1 x6 (decide (x1 < 0))) else (resource_int64Add.j1 k x0 x1 x6 false))
def resource_int64Add.j1 : Nat → Int → Int → Int → Bool → Option (Int × Bool)
  | 0, _, _, _, _ => none
  | k + 1, x0, x1, x6, x19 => if x19 = true then (if x6 > 0 then (some (0, false)) else (if x0 = (-9223372036854775808) then (if x1 = (-9223372036854775808) then (some (0, false)) else (some (x6, true))) else (some (x6, true)))) else (some (x6, true))
end
def resource_int64Add.f (k : Nat) (a0 : Int) (a1 : Int) : Option (Int × Bool) := if a0 > 0 then (resource_int64Add.j0 k a0 a1 (wrap64 (a0 + a1)) (decide (a1 > 0))) else (resource_int64Add.j0 k a0 a1 (wrap64 (a0 + a1)) false)
theorem resource_int64Add.mono_l : ∀ k, (∀ y0 y1 y2 y3, LeO (resource_int64Add.j0 k y0 y1 y2 y3) (resource_int64Add.j0 (k + 1) y0 y1 y2 y3)) ∧ (∀ y0 y1 y2 y3, LeO (resource_int64Add.j1 k y0 y1 y2 y3) (resource_int64Add.j1 (k + 1) y0 y1 y2 y3))
  | 0 => ⟨fun _ _ _ _ r h => by simp [resource_int64Add.j0] at h, fun _ _ _ _ r h => by simp [resource_int64Add.j1] at h⟩
  | k + 1 => by
    obtain ⟨ih0, ih1⟩ := resource_int64Add.mono_l k
    refine ⟨?_, ?_⟩
    · intro y0 y1 y2 y3
      unfold resource_int64Add.j0
      repeat' first
      | (with_reducible exact ih0 _ _ _ _)
      | (with_reducible exact ih1 _ _ _ _)
      | (with_reducible exact LeO.refl _)
      | (with_reducible exact LeO.none _)
      | (with_reducible refine LeO.ite ?_ ?_)
      | (with_reducible refine LeO.bind ?_ (fun _ => ?_))
      | exact ih0 _ _ _ _
      | exact ih1 _ _ _ _
      | exact LeO.none _
      | refine LeO.ite ?_ ?_
      | refine LeO.bind ?_ (fun _ => ?_)
    · intro y0 y1 y2 y3
      unfold resource_int64Add.j1
      repeat' first
      | (with_reducible exact ih0 _ _ _ _)
      | (with_reducible exact ih1 _ _ _ _)
      | (with_reducible exact LeO.refl _)
      | (with_reducible exact LeO.none _)
      | (with_reducible refine LeO.ite ?_ ?_)
      | (with_reducible refine LeO.bind ?_ (fun _ => ?_))
      | exact ih0 _ _ _ _
      | exact ih1 _ _ _ _
      | exact LeO.none _
      | refine LeO.ite ?_ ?_
      | refine LeO.bind ?_ (fun _ => ?_)
theorem resource_int64Add.mono : ∀ a0 a1 k, LeO (resource_int64Add.f k a0 a1) (resource_int64Add.f (k + 1) a0 a1) := by
  intro a0 a1 k
  obtain ⟨ih0, ih1⟩ := resource_int64Add.mono_l k
  unfold resource_int64Add.f
  repeat' first
      | (with_reducible exact ih0 _ _ _ _)
      | (with_reducible exact ih1 _ _ _ _)
      | (with_reducible exact LeO.refl _)
      | (with_reducible exact LeO.none _)
      | (with_reducible refine LeO.ite ?_ ?_)
      | (with_reducible refine LeO.bind ?_ (fun _ => ?_))
      | exact ih0 _ _ _ _
      | exact ih1 _ _ _ _
      | exact LeO.none _
      | refine LeO.ite ?_ ?_
      | refine LeO.bind ?_ (fun _ => ?_)
set_option maxHeartbeats 8000000 in
set_option maxRecDepth 100000 in
theorem resource_int64Add.calls (k : Nat) (a0 : Int) (a1 : Int) (r1 : Int) (r2 : Bool) (w : World) (h : resource_int64Add.f k a0 a1 = some (r1, r2)) :
    Calls Try.prog 50 #[.int .i64 a0, .int .i64 a1] w fun e w' => e = .returned (.tuple #[.int .i64 r1, .bool r2]) ∧ Drawn0 w w' := by
  have H : (if a0 > 0 then (resource_int64Add.j0 k a0 a1 (wrap64 (a0 + a1)) (decide (a1 > 0))) else (resource_int64Add.j0 k a0 a1 (wrap64 (a0 + a1)) false)) = some (r1, r2) := h
  clear h
  have HC3 := Aside0.mk H
  clear H
  go_enter Try.func50, Try.ntmps50
  go_upto_region 2 with (fail)
  go_cut [10] (fun v10 wc => ∃ (kq : Nat) (x10_2 : Bool), v10 = .bool x10_2 ∧ Aside0 (resource_int64Add.j0 kq a0 a1 (wrap64 (a0 + a1)) x10_2 = some (r1, r2)) ∧ Aside0 (kq ≤ k) ∧ Drawn0 w wc)
  case first =>
    have H := HC3.out
    clear HC3
    by_cases c4 : a0 > 0
    · rw [if_pos c4] at H
      have c4b0 : decide (0 < a0) = true := decide_eq_true c4
      clear c4
      (first | rw [c4b0] | (simp only [i64_w, i32_w]; rw [c4b0]) | skip)
      have H' := Aside0.mk H
      clear H
      go_wp2
      go_meet
      case rel => exact ⟨_, (decide (a1 > 0)), (by first | rfl | (simp; done) | (simp [*]; done)), H', ⟨by first | omega | exact Nat.le_refl _⟩, by repeat (first | exact Drawn0.refl _ | apply Drawn0.step)⟩
    · rw [if_neg c4] at H
      have c4b0 : decide (0 < a0) = false := decide_eq_false c4
      clear c4
      (first | rw [c4b0] | (simp only [i64_w, i32_w]; rw [c4b0]) | skip)
      have H' := Aside0.mk H
      clear H
      go_wp2
      go_meet
      case rel => exact ⟨_, (false), (by first | rfl | (simp; done) | (simp [*]; done)), H', ⟨by first | omega | exact Nat.le_refl _⟩, by repeat (first | exact Drawn0.refl _ | apply Drawn0.step)⟩
  case rest =>
    clear HC3
    try clear p2
    try clear c4
    try clear c4b0
    obtain ⟨kq, x10_2, rfl, HA, HJ2, ⟨mc2, rfl⟩⟩ := hcut
    cases kq with
    | zero => exact absurd HA.out (by simp [resource_int64Add.j0])
    | succ kj2 =>
      have H := HA.out
      clear HA
      simp only [resource_int64Add.j0] at H
      by_cases c5 : x10_2 = true
      · subst c5
        have H1 : (if (wrap64 (a0 + a1)) < 0 then (some (0, false)) else (some ((wrap64 (a0 + a1)), true))) = some (r1, r2) := by rw [if_pos rfl] at H; exact H
        clear H
        have H := H1
        clear H1
        by_cases c6 : (wrap64 (a0 + a1)) < 0
        · rw [if_pos c6] at H
          have c6b0 : decide ((wrap64 (a0 + a1)) < 0) = true := decide_eq_true c6
          clear c6
          simp only [Option.some.injEq, Prod.mk.injEq] at H
          obtain ⟨rfl, rfl⟩ := H
          go_wp2
          go_ret2
          exact ⟨by first | rfl | (simp; done) | (simp [*]; done), by repeat (first | exact Drawn0.refl _ | apply Drawn0.step)⟩
        · rw [if_neg c6] at H
          have c6b0 : decide ((wrap64 (a0 + a1)) < 0) = false := decide_eq_false c6
          clear c6
          simp only [Option.some.injEq, Prod.mk.injEq] at H
          obtain ⟨rfl, rfl⟩ := H
          go_wp2
          go_ret2
          exact ⟨by first | rfl | (simp; done) | (simp [*]; done), by repeat (first | exact Drawn0.refl _ | apply Drawn0.step)⟩
      · replace c5 := Bool.eq_false_iff.mpr c5
        subst c5
        have H1 : (if a0 < 0 then (resource_int64Add.j1 kj2 a0 a1 (wrap64 (a0 + a1)) (decide (a1 < 0))) else (resource_int64Add.j1 kj2 a0 a1 (wrap64 (a0 + a1)) false)) = some (r1, r2) := by rw [if_neg (show ¬ (false = true) by decide)] at H; exact H
        clear H
        have H := H1
        clear H1
        have HC7 := Aside0.mk H
        clear H
        go_upto_region 5 with (fail)
        go_cut [19] (fun v19 wc => ∃ (kq : Nat) (x19_6 : Bool), v19 = .bool x19_6 ∧ Aside0 (resource_int64Add.j1 kq a0 a1 (wrap64 (a0 + a1)) x19_6 = some (r1, r2)) ∧ Aside0 (kq ≤ kj2) ∧ Drawn0 w wc)
        case first =>
          have H := HC7.out
          clear HC7
          by_cases c8 : a0 < 0
          · rw [if_pos c8] at H
            have c8b0 : decide (a0 < 0) = true := decide_eq_true c8
            clear c8
            (first | rw [c8b0] | (simp only [i64_w, i32_w]; rw [c8b0]) | skip)
            have H' := Aside0.mk H
            clear H
            go_wp2
            go_meet
            case rel => exact ⟨_, (decide (a1 < 0)), (by first | rfl | (simp; done) | (simp [*]; done)), H', ⟨by have := HJ2.out; first | omega | exact Nat.le_refl _⟩, by repeat (first | exact Drawn0.refl _ | apply Drawn0.step)⟩
          · rw [if_neg c8] at H
            have c8b0 : decide (a0 < 0) = false := decide_eq_false c8
            clear c8
            (first | rw [c8b0] | (simp only [i64_w, i32_w]; rw [c8b0]) | skip)
            have H' := Aside0.mk H
            clear H
            go_wp2
            go_meet
            case rel => exact ⟨_, (false), (by first | rfl | (simp; done) | (simp [*]; done)), H', ⟨by have := HJ2.out; first | omega | exact Nat.le_refl _⟩, by repeat (first | exact Drawn0.refl _ | apply Drawn0.step)⟩
        case rest =>
          clear HC7
          try clear c2
          try clear p2
          try clear c4
          try clear c4b0
          try clear c5
          try clear c6
          try clear c6b0
          try clear p6
          try clear c8
          try clear c8b0
          try clear p2
          obtain ⟨kq, x19_6, rfl, HA, HJ6, ⟨mc6, rfl⟩⟩ := hcut
          cases kq with
          | zero => exact absurd HA.out (by simp [resource_int64Add.j1])
          | succ kj6 =>
            have H := HA.out
            clear HA
            simp only [resource_int64Add.j1] at H
            by_cases c9 : x19_6 = true
            · subst c9
              have H1 : (if (wrap64 (a0 + a1)) > 0 then (some (0, false)) else (if a0 = (-9223372036854775808) then (if a1 = (-9223372036854775808) then (some (0, false)) else (some ((wrap64 (a0 + a1)), true))) else (some ((wrap64 (a0 + a1)), true)))) = some (r1, r2) := by rw [if_pos rfl] at H; exact H
              clear H
              have H := H1
              clear H1
              by_cases c10 : (wrap64 (a0 + a1)) > 0
              · rw [if_pos c10] at H
                have c10b0 : decide (0 < (wrap64 (a0 + a1))) = true := decide_eq_true c10
                clear c10
                simp only [Option.some.injEq, Prod.mk.injEq] at H
                obtain ⟨rfl, rfl⟩ := H
                go_wp2
                go_ret2
                exact ⟨by first | rfl | (simp; done) | (simp [*]; done), by repeat (first | exact Drawn0.refl _ | apply Drawn0.step)⟩
              · rw [if_neg c10] at H
                have c10b0 : decide (0 < (wrap64 (a0 + a1))) = false := decide_eq_false c10
                clear c10
                by_cases c11 : a0 = (-9223372036854775808)
                · rw [if_pos c11] at H
                  have c11b0 : (a0 == (-9223372036854775808)) = true := beq_iff_eq.mpr c11
                  have c11b1 : (a0 != (-9223372036854775808)) = false := bne_eq_false_iff_eq.mpr c11
                  clear c11
                  by_cases c12 : a1 = (-9223372036854775808)
                  · rw [if_pos c12] at H
                    have c12b0 : (a1 == (-9223372036854775808)) = true := beq_iff_eq.mpr c12
                    have c12b1 : (a1 != (-9223372036854775808)) = false := bne_eq_false_iff_eq.mpr c12
                    clear c12
                    simp only [Option.some.injEq, Prod.mk.injEq] at H
                    obtain ⟨rfl, rfl⟩ := H
                    go_wp2
                    go_ret2
                    exact ⟨by first | rfl | (simp; done) | (simp [*]; done), by repeat (first | exact Drawn0.refl _ | apply Drawn0.step)⟩
                  · rw [if_neg c12] at H
                    have c12b0 : (a1 == (-9223372036854775808)) = false := beq_eq_false_iff_ne.mpr c12
                    have c12b1 : (a1 != (-9223372036854775808)) = true := bne_iff_ne.mpr c12
                    simp only [Option.some.injEq, Prod.mk.injEq] at H
                    obtain ⟨rfl, rfl⟩ := H
                    go_wp2
                    go_ret2
                    exact ⟨by first | rfl | (simp; done) | (simp [*]; done), by repeat (first | exact Drawn0.refl _ | apply Drawn0.step)⟩
                · rw [if_neg c11] at H
                  have c11b0 : (a0 == (-9223372036854775808)) = false := beq_eq_false_iff_ne.mpr c11
                  have c11b1 : (a0 != (-9223372036854775808)) = true := bne_iff_ne.mpr c11
                  simp only [Option.some.injEq, Prod.mk.injEq] at H
                  obtain ⟨rfl, rfl⟩ := H
                  go_wp2
                  go_ret2
                  exact ⟨by first | rfl | (simp; done) | (simp [*]; done), by repeat (first | exact Drawn0.refl _ | apply Drawn0.step)⟩
            · replace c9 := Bool.eq_false_iff.mpr c9
              subst c9
              have H1 : (some ((wrap64 (a0 + a1)), true)) = some (r1, r2) := by rw [if_neg (show ¬ (false = true) by decide)] at H; exact H
              clear H
              have H := H1
              clear H1
              simp only [Option.some.injEq, Prod.mk.injEq] at H
              obtain ⟨rfl, rfl⟩ := H
              go_wp2
              go_ret2
              exact ⟨by first | rfl | (simp; done) | (simp [*]; done), by repeat (first | exact Drawn0.refl _ | apply Drawn0.step)⟩

/-! ### resource_int64MultiplyScale10: function 52 -/
def resource_int64MultiplyScale10.j0 : Nat → Int → Bool → Option (Int × Bool)
  | 0, _, _ => none
  | k + 1, x0, x10 => if x10 = true then (some (wrap64 (x0 * 10), true)) else (if x0 = (-9223372036854775808) then (some (0, false)) else (some (wrap64 (x0 * 10), ((wrap64 (Int.tdiv (wrap64 (x0 * 10)) 10)) == x0))))
def resource_int64MultiplyScale10.f (k : Nat) (a0 : Int) : Option (Int × Bool) := if a0 = 0 then (resource_int64MultiplyScale10.j0 k a0 true) else (resource_int64MultiplyScale10.j0 k a0 (a0 == 1))
theorem resource_int64MultiplyScale10.mono_l : ∀ k, (∀ y0 y1, LeO (resource_int64MultiplyScale10.j0 k y0 y1) (resource_int64MultiplyScale10.j0 (k + 1) y0 y1))
  | 0 => fun _ _ r h => by simp [resource_int64MultiplyScale10.j0] at h
  | k + 1 => by
    have ih0 := resource_int64MultiplyScale10.mono_l k
    · intro y0 y1
      unfold resource_int64MultiplyScale10.j0
      repeat' first
      | (with_reducible exact ih0 _ _)
      | (with_reducible exact LeO.refl _)
      | (with_reducible exact LeO.none _)
      | (with_reducible refine LeO.ite ?_ ?_)
      | (with_reducible refine LeO.bind ?_ (fun _ => ?_))
      | exact ih0 _ _
      | exact LeO.none _
      | refine LeO.ite ?_ ?_
      | refine LeO.bind ?_ (fun _ => ?_)
theorem resource_int64MultiplyScale10.mono : ∀ a0 k, LeO (resource_int64MultiplyScale10.f k a0) (resource_int64MultiplyScale10.f (k + 1) a0) := by
  intro a0 k
  have ih0 := resource_int64MultiplyScale10.mono_l k
  unfold resource_int64MultiplyScale10.f
  repeat' first
      | (with_reducible exact ih0 _ _)
      | (with_reducible exact LeO.refl _)
      | (with_reducible exact LeO.none _)
      | (with_reducible refine LeO.ite ?_ ?_)
      | (with_reducible refine LeO.bind ?_ (fun _ => ?_))
      | exact ih0 _ _
      | exact LeO.none _
      | refine LeO.ite ?_ ?_
      | refine LeO.bind ?_ (fun _ => ?_)
set_option maxHeartbeats 8000000 in
set_option maxRecDepth 100000 in
theorem resource_int64MultiplyScale10.calls (k : Nat) (a0 : Int) (r1 : Int) (r2 : Bool) (w : World) (h : resource_int64MultiplyScale10.f k a0 = some (r1, r2)) :
    Calls Try.prog 52 #[.int .i64 a0] w fun e w' => e = .returned (.tuple #[.int .i64 r1, .bool r2]) ∧ Drawn0 w w' := by
  have H : (if a0 = 0 then (resource_int64MultiplyScale10.j0 k a0 true) else (resource_int64MultiplyScale10.j0 k a0 (a0 == 1))) = some (r1, r2) := h
  clear h
  have HC2 := Aside0.mk H
  clear H
  go_enter Try.func52, Try.ntmps52
  go_upto_region 1 with (fail)
  go_cut [10] (fun v10 wc => ∃ (kq : Nat) (x10_1 : Bool), v10 = .bool x10_1 ∧ Aside0 (resource_int64MultiplyScale10.j0 kq a0 x10_1 = some (r1, r2)) ∧ Aside0 (kq ≤ k) ∧ Drawn0 w wc)
  case first =>
    have H := HC2.out
    clear HC2
    by_cases c3 : a0 = 0
    · rw [if_pos c3] at H
      have c3b0 : (a0 == 0) = true := beq_iff_eq.mpr c3
      have c3b1 : (a0 != 0) = false := bne_eq_false_iff_eq.mpr c3
      clear c3
      (first | rw [c3b0] | (simp only [i64_w, i32_w]; rw [c3b0]) | skip)
      have H' := Aside0.mk H
      clear H
      go_wp2
      go_meet
      case rel => exact ⟨_, (true), (by first | rfl | (simp; done) | (simp [*]; done)), H', ⟨by first | omega | exact Nat.le_refl _⟩, by repeat (first | exact Drawn0.refl _ | apply Drawn0.step)⟩
    · rw [if_neg c3] at H
      have c3b0 : (a0 == 0) = false := beq_eq_false_iff_ne.mpr c3
      have c3b1 : (a0 != 0) = true := bne_iff_ne.mpr c3
      (first | rw [c3b0] | (simp only [i64_w, i32_w]; rw [c3b0]) | skip)
      have H' := Aside0.mk H
      clear H
      go_wp2
      go_meet
      case rel => exact ⟨_, ((a0 == 1)), (by first | rfl | (simp; done) | (simp [*]; done)), H', ⟨by first | omega | exact Nat.le_refl _⟩, by repeat (first | exact Drawn0.refl _ | apply Drawn0.step)⟩
  case rest =>
    clear HC2
    try clear p2
    try clear c3
    try clear c3b0
    try clear c3b1
    obtain ⟨kq, x10_1, rfl, HA, HJ1, ⟨mc1, rfl⟩⟩ := hcut
    cases kq with
    | zero => exact absurd HA.out (by simp [resource_int64MultiplyScale10.j0])
    | succ kj1 =>
      have H := HA.out
      clear HA
      simp only [resource_int64MultiplyScale10.j0] at H
      by_cases c4 : x10_1 = true
      · subst c4
        have H1 : (some (wrap64 (a0 * 10), true)) = some (r1, r2) := by rw [if_pos rfl] at H; exact H
        clear H
        have H := H1
        clear H1
        simp only [Option.some.injEq, Prod.mk.injEq] at H
        obtain ⟨rfl, rfl⟩ := H
        go_wp2
        go_ret2
        exact ⟨by first | rfl | (simp; done) | (simp [*]; done), by repeat (first | exact Drawn0.refl _ | apply Drawn0.step)⟩
      · replace c4 := Bool.eq_false_iff.mpr c4
        subst c4
        have H1 : (if a0 = (-9223372036854775808) then (some (0, false)) else (some (wrap64 (a0 * 10), ((wrap64 (Int.tdiv (wrap64 (a0 * 10)) 10)) == a0)))) = some (r1, r2) := by rw [if_neg (show ¬ (false = true) by decide)] at H; exact H
        clear H
        have H := H1
        clear H1
        by_cases c5 : a0 = (-9223372036854775808)
        · rw [if_pos c5] at H
          have c5b0 : (a0 == (-9223372036854775808)) = true := beq_iff_eq.mpr c5
          have c5b1 : (a0 != (-9223372036854775808)) = false := bne_eq_false_iff_eq.mpr c5
          clear c5
          simp only [Option.some.injEq, Prod.mk.injEq] at H
          obtain ⟨rfl, rfl⟩ := H
          go_wp2
          go_ret2
          exact ⟨by first | rfl | (simp; done) | (simp [*]; done), by repeat (first | exact Drawn0.refl _ | apply Drawn0.step)⟩
        · rw [if_neg c5] at H
          have c5b0 : (a0 == (-9223372036854775808)) = false := beq_eq_false_iff_ne.mpr c5
          have c5b1 : (a0 != (-9223372036854775808)) = true := bne_iff_ne.mpr c5
          simp only [Option.some.injEq, Prod.mk.injEq] at H
          obtain ⟨rfl, rfl⟩ := H
          go_wp2
          go_ret2
          exact ⟨by first | rfl | (simp; done) | (simp [*]; done), by repeat (first | exact Drawn0.refl _ | apply Drawn0.step)⟩

/-! ### resource_int64MultiplyScale100: function 53 -/
def resource_int64MultiplyScale100.j0 : Nat → Int → Bool → Option (Int × Bool)
  | 0, _, _ => none
  | k + 1, x0, x10 => if x10 = true then (some (wrap64 (x0 * 100), true)) else (if x0 = (-9223372036854775808) then (some (0, false)) else (some (wrap64 (x0 * 100), ((wrap64 (Int.tdiv (wrap64 (x0 * 100)) 100)) == x0))))
def resource_int64MultiplyScale100.f (k : Nat) (a0 : Int) : Option (Int × Bool) := if a0 = 0 then (resource_int64MultiplyScale100.j0 k a0 true) else (resource_int64MultiplyScale100.j0 k a0 (a0 == 1))
theorem resource_int64MultiplyScale100.mono_l : ∀ k, (∀ y0 y1, LeO (resource_int64MultiplyScale100.j0 k y0 y1) (resource_int64MultiplyScale100.j0 (k + 1) y0 y1))
  | 0 => fun _ _ r h => by simp [resource_int64MultiplyScale100.j0] at h
  | k + 1 => by
    have ih0 := resource_int64MultiplyScale100.mono_l k
    · intro y0 y1
      unfold resource_int64MultiplyScale100.j0
      repeat' first
      | (with_reducible exact ih0 _ _)
      | (with_reducible exact LeO.refl _)
      | (with_reducible exact LeO.none _)
      | (with_reducible refine LeO.ite ?_ ?_)
      | (with_reducible refine LeO.bind ?_ (fun _ => ?_))
      | exact ih0 _ _
      | exact LeO.none _
      | refine LeO.ite ?_ ?_
      | refine LeO.bind ?_ (fun _ => ?_)
theorem resource_int64MultiplyScale100.mono : ∀ a0 k, LeO (resource_int64MultiplyScale100.f k a0) (resource_int64MultiplyScale100.f (k + 1) a0) := by
  intro a0 k
  have ih0 := resource_int64MultiplyScale100.mono_l k
  unfold resource_int64MultiplyScale100.f
  repeat' first
      | (with_reducible exact ih0 _ _)
      | (with_reducible exact LeO.refl _)
      | (with_reducible exact LeO.none _)
      | (with_reducible refine LeO.ite ?_ ?_)
      | (with_reducible refine LeO.bind ?_ (fun _ => ?_))
      | exact ih0 _ _
      | exact LeO.none _
      | refine LeO.ite ?_ ?_
      | refine LeO.bind ?_ (fun _ => ?_)
set_option maxHeartbeats 8000000 in
set_option maxRecDepth 100000 in
theorem resource_int64MultiplyScale100.calls (k : Nat) (a0 : Int) (r1 : Int) (r2 : Bool) (w : World) (h : resource_int64MultiplyScale100.f k a0 = some (r1, r2)) :
    Calls Try.prog 53 #[.int .i64 a0] w fun e w' => e = .returned (.tuple #[.int .i64 r1, .bool r2]) ∧ Drawn0 w w' := by
  have H : (if a0 = 0 then (resource_int64MultiplyScale100.j0 k a0 true) else (resource_int64MultiplyScale100.j0 k a0 (a0 == 1))) = some (r1, r2) := h
  clear h
  have HC2 := Aside0.mk H
  clear H
  go_enter Try.func53, Try.ntmps53
  go_upto_region 1 with (fail)
  go_cut [10] (fun v10 wc => ∃ (kq : Nat) (x10_1 : Bool), v10 = .bool x10_1 ∧ Aside0 (resource_int64MultiplyScale100.j0 kq a0 x10_1 = some (r1, r2)) ∧ Aside0 (kq ≤ k) ∧ Drawn0 w wc)
  case first =>
    have H := HC2.out
    clear HC2
    by_cases c3 : a0 = 0
    · rw [if_pos c3] at H
      have c3b0 : (a0 == 0) = true := beq_iff_eq.mpr c3
      have c3b1 : (a0 != 0) = false := bne_eq_false_iff_eq.mpr c3
      clear c3
      (first | rw [c3b0] | (simp only [i64_w, i32_w]; rw [c3b0]) | skip)
      have H' := Aside0.mk H
      clear H
      go_wp2
      go_meet
      case rel => exact ⟨_, (true), (by first | rfl | (simp; done) | (simp [*]; done)), H', ⟨by first | omega | exact Nat.le_refl _⟩, by repeat (first | exact Drawn0.refl _ | apply Drawn0.step)⟩
    · rw [if_neg c3] at H
      have c3b0 : (a0 == 0) = false := beq_eq_false_iff_ne.mpr c3
      have c3b1 : (a0 != 0) = true := bne_iff_ne.mpr c3
      (first | rw [c3b0] | (simp only [i64_w, i32_w]; rw [c3b0]) | skip)
      have H' := Aside0.mk H
      clear H
      go_wp2
      go_meet
      case rel => exact ⟨_, ((a0 == 1)), (by first | rfl | (simp; done) | (simp [*]; done)), H', ⟨by first | omega | exact Nat.le_refl _⟩, by repeat (first | exact Drawn0.refl _ | apply Drawn0.step)⟩
  case rest =>
    clear HC2
    try clear p2
    try clear c3
    try clear c3b0
    try clear c3b1
    obtain ⟨kq, x10_1, rfl, HA, HJ1, ⟨mc1, rfl⟩⟩ := hcut
    cases kq with
    | zero => exact absurd HA.out (by simp [resource_int64MultiplyScale100.j0])
    | succ kj1 =>
      have H := HA.out
      clear HA
      simp only [resource_int64MultiplyScale100.j0] at H
      by_cases c4 : x10_1 = true
      · subst c4
        have H1 : (some (wrap64 (a0 * 100), true)) = some (r1, r2) := by rw [if_pos rfl] at H; exact H
        clear H
        have H := H1
        clear H1
        simp only [Option.some.injEq, Prod.mk.injEq] at H
        obtain ⟨rfl, rfl⟩ := H
        go_wp2
        go_ret2
        exact ⟨by first | rfl | (simp; done) | (simp [*]; done), by repeat (first | exact Drawn0.refl _ | apply Drawn0.step)⟩
      · replace c4 := Bool.eq_false_iff.mpr c4
        subst c4
        have H1 : (if a0 = (-9223372036854775808) then (some (0, false)) else (some (wrap64 (a0 * 100), ((wrap64 (Int.tdiv (wrap64 (a0 * 100)) 100)) == a0)))) = some (r1, r2) := by rw [if_neg (show ¬ (false = true) by decide)] at H; exact H
        clear H
        have H := H1
        clear H1
        by_cases c5 : a0 = (-9223372036854775808)
        · rw [if_pos c5] at H
          have c5b0 : (a0 == (-9223372036854775808)) = true := beq_iff_eq.mpr c5
          have c5b1 : (a0 != (-9223372036854775808)) = false := bne_eq_false_iff_eq.mpr c5
          clear c5
          simp only [Option.some.injEq, Prod.mk.injEq] at H
          obtain ⟨rfl, rfl⟩ := H
          go_wp2
          go_ret2
          exact ⟨by first | rfl | (simp; done) | (simp [*]; done), by repeat (first | exact Drawn0.refl _ | apply Drawn0.step)⟩
        · rw [if_neg c5] at H
          have c5b0 : (a0 == (-9223372036854775808)) = false := beq_eq_false_iff_ne.mpr c5
          have c5b1 : (a0 != (-9223372036854775808)) = true := bne_iff_ne.mpr c5
          simp only [Option.some.injEq, Prod.mk.injEq] at H
          obtain ⟨rfl, rfl⟩ := H
          go_wp2
          go_ret2
          exact ⟨by first | rfl | (simp; done) | (simp [*]; done), by repeat (first | exact Drawn0.refl _ | apply Drawn0.step)⟩

end Go.Proofs.Ytpchihkegmihiaa.XFnAmountRounds
