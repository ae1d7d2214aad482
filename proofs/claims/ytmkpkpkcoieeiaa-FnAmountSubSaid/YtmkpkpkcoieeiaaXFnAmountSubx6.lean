/- A text of this session: the functions of the law FnAmountSub, by a program that calls the kit's print and lays this session's own contracts of single functions beside. -/
import Derived.Test.YtmkpkpkcoieeiaaXFnAmountSubx0
import Derived.Test.YtmkpkpkcoieeiaaXFnAmountSubx4
import Derived.Test.YtmkpkpkcoieeiaaXFnAmountSubx5
namespace Go.Proofs.Ytmkpkpkcoieeiaa.XFnAmountSub
open Go.RowKit Go.Proofs.YtmkpkpkcoieeiaaW.PrintWords Go.Proofs.YtmkpkpkcoieeiaaW.PrintLast Go.Proofs.YtmkpkpkcoieeiaaW.PrintMore
attribute [local go_sem] max2_int min2_int max_two min_two max_three min_three max_four min_four   -- for this text's walks alone
set_option linter.unusedVariables false
set_option linter.unusedSimpArgs false

/-! ### spec_DecimalAdd: function 10 -/
mutual
def spec_DecimalAdd.j0 : Nat → Int → Bool → Bool → List Int → Int → Bool → List Int → Int → Option (Bool × List Int × Int × Bool)
  | 0, _, _, _, _, _, _, _, _ => none
  | k + 1, x6, x33, x205000, x205001, x205002, x206000, x206001, x206002 => if x33 = true then (some (false, ([] : List Int), 0, false)) else (if (x205000 != x206000) = true then ((spec_larger.f k x205000 x205001 x205002 x206000 x206001 x206002).bind fun t207 => (spec_DecimalAdd.j1 k x6 (decide (t207 < 0)) x205000 x205001 x205002 x206000 x206001 x206002)) else (spec_DecimalAdd.j1 k x6 false x205000 x205001 x205002 x206000 x206001 x206002))
def spec_DecimalAdd.j1 : Nat → Int → Bool → Bool → List Int → Int → Bool → List Int → Int → Option (Bool × List Int × Int × Bool)
  | 0, _, _, _, _, _, _, _, _ => none
  | k + 1, x6, x45, x205000, x205001, x205002, x206000, x206001, x206002 => if x45 = true then ((spec_wide.f k x206000 x206001 x206002 x6).bind fun t208 => ((spec_wide.f k x205000 x205001 x205002 x6).bind fun t211 => ((spec_sum.f k x206000 t208 t211 (x206000 != x205000) x6).bind fun bt214 => (some (bt214.1, bt214.2.1, bt214.2.2, true))))) else ((spec_wide.f k x205000 x205001 x205002 x6).bind fun t219 => ((spec_wide.f k x206000 x206001 x206002 x6).bind fun t222 => ((spec_sum.f k x205000 t219 t222 (x205000 != x206000) x6).bind fun bt225 => (some (bt225.1, bt225.2.1, bt225.2.2, true)))))
end
def spec_DecimalAdd.f (k : Nat) (a0_0 : Bool) (l0_1 : List Int) (a0_2 : Int) (a1_0 : Bool) (l1_1 : List Int) (a1_2 : Int) : Option (Bool × List Int × Int × Bool) := if (l0_1.length : Int) = 0 then (some (a1_0, l1_1, a1_2, true)) else (if (l1_1.length : Int) = 0 then (none) else (if (wrap64 (a0_2 - (mn a0_2 a1_2))) > 2000 then (spec_DecimalAdd.j0 k (mn a0_2 a1_2) true a0_0 l0_1 a0_2 a1_0 l1_1 a1_2) else (spec_DecimalAdd.j0 k (mn a0_2 a1_2) (decide ((wrap64 (a1_2 - (mn a0_2 a1_2))) > 2000)) a0_0 l0_1 a0_2 a1_0 l1_1 a1_2)))
theorem spec_DecimalAdd.mono_l : ∀ k, (∀ y0 y1 y2 y3 y4 y5 y6 y7, LeO (spec_DecimalAdd.j0 k y0 y1 y2 y3 y4 y5 y6 y7) (spec_DecimalAdd.j0 (k + 1) y0 y1 y2 y3 y4 y5 y6 y7)) ∧ (∀ y0 y1 y2 y3 y4 y5 y6 y7, LeO (spec_DecimalAdd.j1 k y0 y1 y2 y3 y4 y5 y6 y7) (spec_DecimalAdd.j1 (k + 1) y0 y1 y2 y3 y4 y5 y6 y7))
  | 0 => ⟨fun _ _ _ _ _ _ _ _ r h => by simp [spec_DecimalAdd.j0] at h, fun _ _ _ _ _ _ _ _ r h => by simp [spec_DecimalAdd.j1] at h⟩
  | k + 1 => by
    obtain ⟨ih0, ih1⟩ := spec_DecimalAdd.mono_l k
    refine ⟨?_, ?_⟩
    · intro y0 y1 y2 y3 y4 y5 y6 y7
      unfold spec_DecimalAdd.j0
      repeat' first
      | (with_reducible exact ih0 _ _ _ _ _ _ _ _)
      | (with_reducible exact ih1 _ _ _ _ _ _ _ _)
      | (with_reducible exact spec_larger.mono _ _ _ _ _ _ _)
      | (with_reducible exact spec_sum.mono _ _ _ _ _ _)
      | (with_reducible exact spec_wide.mono _ _ _ _ _)
      | (with_reducible exact LeO.refl _)
      | (with_reducible exact LeO.none _)
      | (with_reducible refine LeO.ite ?_ ?_)
      | (with_reducible refine LeO.bind ?_ (fun _ => ?_))
      | exact ih0 _ _ _ _ _ _ _ _
      | exact ih1 _ _ _ _ _ _ _ _
      | exact spec_larger.mono _ _ _ _ _ _ _
      | exact spec_sum.mono _ _ _ _ _ _
      | exact spec_wide.mono _ _ _ _ _
      | exact LeO.none _
      | refine LeO.ite ?_ ?_
      | refine LeO.bind ?_ (fun _ => ?_)
    · intro y0 y1 y2 y3 y4 y5 y6 y7
      unfold spec_DecimalAdd.j1
      repeat' first
      | (with_reducible exact ih0 _ _ _ _ _ _ _ _)
      | (with_reducible exact ih1 _ _ _ _ _ _ _ _)
      | (with_reducible exact spec_larger.mono _ _ _ _ _ _ _)
      | (with_reducible exact spec_sum.mono _ _ _ _ _ _)
      | (with_reducible exact spec_wide.mono _ _ _ _ _)
      | (with_reducible exact LeO.refl _)
      | (with_reducible exact LeO.none _)
      | (with_reducible refine LeO.ite ?_ ?_)
      | (with_reducible refine LeO.bind ?_ (fun _ => ?_))
      | exact ih0 _ _ _ _ _ _ _ _
      | exact ih1 _ _ _ _ _ _ _ _
      | exact spec_larger.mono _ _ _ _ _ _ _
      | exact spec_sum.mono _ _ _ _ _ _
      | exact spec_wide.mono _ _ _ _ _
      | exact LeO.none _
      | refine LeO.ite ?_ ?_
      | refine LeO.bind ?_ (fun _ => ?_)
theorem spec_DecimalAdd.mono : ∀ a0 a1 a2 a3 a4 a5 k, LeO (spec_DecimalAdd.f k a0 a1 a2 a3 a4 a5) (spec_DecimalAdd.f (k + 1) a0 a1 a2 a3 a4 a5) := by
  intro a0 a1 a2 a3 a4 a5 k
  obtain ⟨ih0, ih1⟩ := spec_DecimalAdd.mono_l k
  unfold spec_DecimalAdd.f
  repeat' first
      | (with_reducible exact ih0 _ _ _ _ _ _ _ _)
      | (with_reducible exact ih1 _ _ _ _ _ _ _ _)
      | (with_reducible exact spec_larger.mono _ _ _ _ _ _ _)
      | (with_reducible exact spec_sum.mono _ _ _ _ _ _)
      | (with_reducible exact spec_wide.mono _ _ _ _ _)
      | (with_reducible exact LeO.refl _)
      | (with_reducible exact LeO.none _)
      | (with_reducible refine LeO.ite ?_ ?_)
      | (with_reducible refine LeO.bind ?_ (fun _ => ?_))
      | exact ih0 _ _ _ _ _ _ _ _
      | exact ih1 _ _ _ _ _ _ _ _
      | exact spec_larger.mono _ _ _ _ _ _ _
      | exact spec_sum.mono _ _ _ _ _ _
      | exact spec_wide.mono _ _ _ _ _
      | exact LeO.none _
      | refine LeO.ite ?_ ?_
      | refine LeO.bind ?_ (fun _ => ?_)
def spec_DecimalAdd.T10 : Bool × List (List Nat × List Nat) := (true, [([], []), ([0], [0]), ([], []), ([], []), ([2, 3], [2, 3]), ([], []), ([], []), ([5, 6, 4], [5, 6]), ([], []), ([8], [8]), ([], []), ([10], [10]), ([9, 11], [9, 11]), ([], []), ([1, 4, 7, 12, 13, 7], [1, 4, 7, 12, 13]), ([14, 14, 0, 1, 2, 3, 4, 5, 6, 7, 8, 9, 10, 11, 12, 13, 14], [14]), ([15, 0, 1, 2, 3, 4, 5, 6, 7, 8, 9, 10, 11, 12, 13, 14, 15], [])])
def spec_DecimalAdd.B10 : List Nat := [0, 1, 0, 0, 12, 0, 0, 124, 0, 256, 0, 1024, 3840, 0, 16383, 32767, 65535]
theorem spec_DecimalAdd.tab10 : rtab .any (opsOf Try.f10 10) = spec_DecimalAdd.T10 := by kernel_rfl
theorem spec_DecimalAdd.bits10 : waitsOk spec_DecimalAdd.T10.2 spec_DecimalAdd.B10 = true := by kernel_rfl
set_option maxHeartbeats 8000000 in
set_option maxRecDepth 100000 in
theorem spec_DecimalAdd.calls (k : Nat) (a0_0 : Bool) (A0_1 : Option Addr) (c0_1 : Nat) (l0_1 : List Int) (a0_2 : Int) (a1_0 : Bool) (P1_1_ : Nat → Prop) (u9000_ : Value) (l1_1 : List Int) (a1_2 : Int) (r1 : Bool) (r2 : List Int) (r3 : Int) (r4 : Bool) (w0 w : World) (hB : Below w0.heap.size w0 w) (hr0_1 : ∀ W_, Kept w W_ (fun k_ => P1_1_ k_) → Kd.C (Kd.int .i64) W_ A0_1 l0_1.length l0_1) (hc0_1 : l0_1.length ≤ c0_1) (ho1_1 : Kd.R (Kd.int .i64) 3 w w0.heap.size P1_1_ u9000_ l1_1) (h : spec_DecimalAdd.f k a0_0 l0_1 a0_2 a1_0 l1_1 a1_2 = some (r1, r2, r3, r4)) :
    Calls Try.prog 10 #[.agg #[.bool a0_0, .slice A0_1 l0_1.length c0_1, .int .i64 a0_2], .agg #[.bool a1_0, u9000_, .int .i64 a1_2]] w fun e w' => ∃ v1_ : Value, e = .returned (.tuple #[.agg #[.bool r1, v1_, .int .i64 r3], .bool r4]) ∧ Kd.R (Kd.int .i64) 3 w' w0.heap.size (fun k_ => (P1_1_ k_ ∨ w.heap.size ≤ k_)) v1_ r2 ∧ Below w0.heap.size w0 w' ∧ Kept w w' (fun k_ => P1_1_ k_) := by
  have hu32 := Try.underlying32
  have HR0_1 := Aside0.mk hr0_1
  have HC0_1 := Aside0.mk hc0_1
  clear hr0_1 hc0_1
  have HO1_1 := Aside0.mk (show Kd.R (Kd.int .i64) 3 w w0.heap.size (fun k_ => (P1_1_ k_ ∨ w.heap.size ≤ k_)) u9000_ l1_1 from Kd.R_mono ho1_1 (fun k_ hk => (.inl hk)))
  have HK := Aside0.mk (Kept.refl w (fun k_ => P1_1_ k_))
  have HW0 := Aside0.mk hB.size
  have HB := Aside0.mk hB
  clear hB
  have H : (if (l0_1.length : Int) = 0 then (some (a1_0, l1_1, a1_2, true)) else (if (l1_1.length : Int) = 0 then (none) else (if (wrap64 (a0_2 - (mn a0_2 a1_2))) > 2000 then (spec_DecimalAdd.j0 k (mn a0_2 a1_2) true a0_0 l0_1 a0_2 a1_0 l1_1 a1_2) else (spec_DecimalAdd.j0 k (mn a0_2 a1_2) (decide ((wrap64 (a1_2 - (mn a0_2 a1_2))) > 2000)) a0_0 l0_1 a0_2 a1_0 l1_1 a1_2)))) = some (r1, r2, r3, r4) := h
  clear h
  by_cases c3 : (l0_1.length : Int) = 0
  · rw [if_pos c3] at H
    have c3b0 : ((l0_1.length : Int) == 0) = true := beq_iff_eq.mpr c3
    have c3b1 : ((l0_1.length : Int) != 0) = false := bne_eq_false_iff_eq.mpr c3
    clear c3
    simp only [Option.some.injEq, Prod.mk.injEq] at H
    obtain ⟨rfl, rfl, rfl, rfl⟩ := H
    go_enter Try.func10, Try.ntmps10
    go_wp2_with (first | ((with_reducible refine gate_dst (N := 2) rfl ?_); refine box_event ?hg (N := 2) ?hd (cs := #[.bool a0_0, .slice A0_1 l0_1.length c0_1, .int .i64 a0_2]) (t := 32) ?hr ?_; (case hd => rfl); (case hg => rfl); (case hr => first | (go_simp; done) | (go_simp; rfl)); intro gb204 hg w4 hbox hb; have n0_ := Aside0.mk (Kd.R_below (by (with_reducible repeat (first | apply Kd.R_alloc | apply Kd.R_drewN | apply Kd.R_drew)); exact HO1_1.out) hb); have n1_ := Aside0.mk (Kept.below (S := (fun k_ => P1_1_ k_)) (by repeat (first | (with_reducible first | exact HK.out | apply Kept.alloc | apply Kept.drewN | apply Kept.drew) | exact HK.out)) hb); have n2_ := Aside0.mk (below_step (by repeat (first | (with_reducible first | exact HB.out | apply below_alloc | apply pw_below_drewN | apply below_drew1) | exact HB.out)) hb); have n3_ := Aside0.mk (hbox); have n4_ := Aside0.mk ((by rw [hg]; exact (by first | exact HK.out.1 | exact (show Kept w _ (fun k_ => P1_1_ k_) from by repeat (first | (with_reducible first | exact HK.out | apply Kept.alloc | apply Kept.drewN | apply Kept.drew) | exact HK.out)).1) : w.heap.size ≤ gb204)); have n5_ := Aside0.mk ((by rw [hg]; exact (below_size (by repeat (first | (with_reducible first | exact HB.out | apply below_alloc | apply pw_below_drewN | apply below_drew1) | exact HB.out))) : w0.heap.size ≤ gb204)); clear HO1_1; clear HK; clear HB; have HO1_1 := n0_; have HK := n1_; have HB := n2_; have BK204 := n3_; have GW204 := n4_; have GE204 := n5_; clear n0_ n1_ n2_ n3_ n4_ n5_; clear hb hbox hg; obtain ⟨Ao5, co5, eo5⟩ := Kd.R_slice HO1_1.out; subst eo5) | ((with_reducible refine gate_dst (N := 3) rfl ?_); refine box_event ?hg (N := 3) ?hd (cs := #[.bool a1_0, .slice Ao5 l1_1.length co5, .int .i64 a1_2]) (t := 32) ?hr ?_; (case hd => rfl); (case hg => rfl); (case hr => first | (go_simp; done) | (go_simp; rfl)); intro gb205 hg w6 hbox hb; have n0_ := Aside0.mk (Kd.R_below (by (with_reducible repeat (first | apply Kd.R_alloc | apply Kd.R_drewN | apply Kd.R_drew)); exact HO1_1.out) hb); have n1_ := Aside0.mk (blk_below (g := gb204) (o := .cells #[.bool a0_0, .slice A0_1 l0_1.length c0_1, .int .i64 a0_2] 32 (0, 0)) (by (with_reducible repeat (first | refine blk_drewN ?_ _ | refine blk_drew ?_ | refine blk_alloc ?_ _)); exact BK204.out) hb); have n2_ := Aside0.mk (Kept.below (S := (fun k_ => P1_1_ k_)) (by repeat (first | (with_reducible first | exact HK.out | apply Kept.alloc | apply Kept.drewN | apply Kept.drew | refine Kept.setCell ?_ (.inr GW204.out) _) | exact HK.out)) hb); have n3_ := Aside0.mk (below_step (by repeat (first | (with_reducible first | exact HB.out | apply below_alloc | apply pw_below_drewN | apply below_drew1 | refine below_set ?_ GE204.out) | exact HB.out)) hb); have n4_ := Aside0.mk (hbox); have n5_ := Aside0.mk ((by rw [hg]; exact (by first | exact HK.out.1 | exact (show Kept w _ (fun k_ => P1_1_ k_) from by repeat (first | (with_reducible first | exact HK.out | apply Kept.alloc | apply Kept.drewN | apply Kept.drew | refine Kept.setCell ?_ (.inr GW204.out) _) | exact HK.out)).1) : w.heap.size ≤ gb205)); have n6_ := Aside0.mk ((by rw [hg]; exact (below_size (by repeat (first | (with_reducible first | exact HB.out | apply below_alloc | apply pw_below_drewN | apply below_drew1 | refine below_set ?_ GE204.out) | exact HB.out))) : w0.heap.size ≤ gb205)); have n7_ := Aside0.mk ((by rw [hg]; exact Nat.ne_of_lt (blk_lt (g := gb204) (o := .cells #[.bool a0_0, .slice A0_1 l0_1.length c0_1, .int .i64 a0_2] 32 (0, 0)) (by (with_reducible repeat (first | refine blk_drewN ?_ _ | refine blk_drew ?_ | refine blk_alloc ?_ _)); exact BK204.out)) : gb204 ≠ gb205)); have n8_ := Aside0.mk ((by rw [hg]; exact Nat.ne_of_gt (blk_lt (g := gb204) (o := .cells #[.bool a0_0, .slice A0_1 l0_1.length c0_1, .int .i64 a0_2] 32 (0, 0)) (by (with_reducible repeat (first | refine blk_drewN ?_ _ | refine blk_drew ?_ | refine blk_alloc ?_ _)); exact BK204.out)) : gb205 ≠ gb204)); clear HO1_1; clear BK204; clear HK; clear HB; have HO1_1 := n0_; have BK204 := n1_; have HK := n2_; have HB := n3_; have BK205 := n4_; have GW205 := n5_; have GE205 := n6_; have NB204_205 := n7_; have NB205_204 := n8_; clear n0_ n1_ n2_ n3_ n4_ n5_ n6_ n7_ n8_; clear hb hbox hg) | ((with_reducible refine gate_dst (N := 4) rfl ?_); refine box_event ?hg (N := 4) ?hd (cs := #[.bool false, .slice none 0 0, .int .i64 0]) (t := 32) ?hr ?_; (case hd => rfl); (case hg => rfl); (case hr => first | (go_simp; done) | (go_simp; rfl)); intro gb206 hg w7 hbox hb; have n0_ := Aside0.mk (Kd.R_below (by (with_reducible repeat (first | apply Kd.R_alloc | apply Kd.R_drewN | apply Kd.R_drew)); exact HO1_1.out) hb); have n1_ := Aside0.mk (blk_below (g := gb204) (o := .cells #[.bool a0_0, .slice A0_1 l0_1.length c0_1, .int .i64 a0_2] 32 (0, 0)) (by (with_reducible repeat (first | refine blk_drewN ?_ _ | refine blk_drew ?_ | refine blk_alloc ?_ _)); exact BK204.out) hb); have n2_ := Aside0.mk (blk_below (g := gb205) (o := .cells #[.bool a1_0, .slice Ao5 l1_1.length co5, .int .i64 a1_2] 32 (0, 0)) (by (with_reducible repeat (first | refine blk_drewN ?_ _ | refine blk_drew ?_ | refine blk_alloc ?_ _)); exact BK205.out) hb); have n3_ := Aside0.mk (Kept.below (S := (fun k_ => P1_1_ k_)) (by repeat (first | (with_reducible first | exact HK.out | apply Kept.alloc | apply Kept.drewN | apply Kept.drew | refine Kept.setCell ?_ (.inr GW204.out) _ | refine Kept.setCell ?_ (.inr GW205.out) _) | exact HK.out)) hb); have n4_ := Aside0.mk (below_step (by repeat (first | (with_reducible first | exact HB.out | apply below_alloc | apply pw_below_drewN | apply below_drew1 | refine below_set ?_ GE204.out | refine below_set ?_ GE205.out) | exact HB.out)) hb); have n5_ := Aside0.mk (hbox); have n6_ := Aside0.mk ((by rw [hg]; exact (by first | exact HK.out.1 | exact (show Kept w _ (fun k_ => P1_1_ k_) from by repeat (first | (with_reducible first | exact HK.out | apply Kept.alloc | apply Kept.drewN | apply Kept.drew | refine Kept.setCell ?_ (.inr GW204.out) _ | refine Kept.setCell ?_ (.inr GW205.out) _) | exact HK.out)).1) : w.heap.size ≤ gb206)); have n7_ := Aside0.mk ((by rw [hg]; exact (below_size (by repeat (first | (with_reducible first | exact HB.out | apply below_alloc | apply pw_below_drewN | apply below_drew1 | refine below_set ?_ GE204.out | refine below_set ?_ GE205.out) | exact HB.out))) : w0.heap.size ≤ gb206)); have n8_ := Aside0.mk ((by rw [hg]; exact Nat.ne_of_lt (blk_lt (g := gb204) (o := .cells #[.bool a0_0, .slice A0_1 l0_1.length c0_1, .int .i64 a0_2] 32 (0, 0)) (by (with_reducible repeat (first | refine blk_drewN ?_ _ | refine blk_drew ?_ | refine blk_alloc ?_ _)); exact BK204.out)) : gb204 ≠ gb206)); have n9_ := Aside0.mk ((by rw [hg]; exact Nat.ne_of_gt (blk_lt (g := gb204) (o := .cells #[.bool a0_0, .slice A0_1 l0_1.length c0_1, .int .i64 a0_2] 32 (0, 0)) (by (with_reducible repeat (first | refine blk_drewN ?_ _ | refine blk_drew ?_ | refine blk_alloc ?_ _)); exact BK204.out)) : gb206 ≠ gb204)); have n10_ := Aside0.mk ((by rw [hg]; exact Nat.ne_of_lt (blk_lt (g := gb205) (o := .cells #[.bool a1_0, .slice Ao5 l1_1.length co5, .int .i64 a1_2] 32 (0, 0)) (by (with_reducible repeat (first | refine blk_drewN ?_ _ | refine blk_drew ?_ | refine blk_alloc ?_ _)); exact BK205.out)) : gb205 ≠ gb206)); have n11_ := Aside0.mk ((by rw [hg]; exact Nat.ne_of_gt (blk_lt (g := gb205) (o := .cells #[.bool a1_0, .slice Ao5 l1_1.length co5, .int .i64 a1_2] 32 (0, 0)) (by (with_reducible repeat (first | refine blk_drewN ?_ _ | refine blk_drew ?_ | refine blk_alloc ?_ _)); exact BK205.out)) : gb206 ≠ gb205)); clear HO1_1; clear BK204; clear BK205; clear HK; clear HB; have HO1_1 := n0_; have BK204 := n1_; have BK205 := n2_; have HK := n3_; have HB := n4_; have BK206 := n5_; have GW206 := n6_; have GE206 := n7_; have NB204_206 := n8_; have NB206_204 := n9_; have NB205_206 := n10_; have NB206_205 := n11_; clear n0_ n1_ n2_ n3_ n4_ n5_ n6_ n7_ n8_ n9_ n10_ n11_; clear hb hbox hg; have hnb8 := NB204_205.out; have hnc8 := NB205_204.out; have hnb9 := NB204_206.out; have hnc9 := NB206_204.out; have hcz10_0 : w7.cell? ⟨gb204, 0, none⟩ = some (.bool a0_0) := (blk_cell BK204.out 0).trans rfl; have hcz10_1 : w7.cell? ⟨gb204, 1, none⟩ = some (.slice A0_1 l0_1.length c0_1) := (blk_cell BK204.out 1).trans rfl; have hcz10_2 : w7.cell? ⟨gb204, 2, none⟩ = some (.int .i64 a0_2) := (blk_cell BK204.out 2).trans rfl; have hfz10_0 := blk_frozen BK204.out 0; have hfz10_1 := blk_frozen BK204.out 1; have hfz10_2 := blk_frozen BK204.out 2; have hnb11 := NB205_206.out; have hnc11 := NB206_205.out; have hcz12_0 : w7.cell? ⟨gb205, 0, none⟩ = some (.bool a1_0) := (blk_cell BK205.out 0).trans rfl; have hcz12_1 : w7.cell? ⟨gb205, 1, none⟩ = some (.slice Ao5 l1_1.length co5) := (blk_cell BK205.out 1).trans rfl; have hcz12_2 : w7.cell? ⟨gb205, 2, none⟩ = some (.int .i64 a1_2) := (blk_cell BK205.out 2).trans rfl; have hfz12_0 := blk_frozen BK205.out 0; have hfz12_1 := blk_frozen BK205.out 1; have hfz12_2 := blk_frozen BK205.out 2; have hcz13_0 : w7.cell? ⟨gb206, 0, none⟩ = some (.bool false) := (blk_cell BK206.out 0).trans rfl; have hcz13_1 : w7.cell? ⟨gb206, 1, none⟩ = some (.slice none 0 0) := (blk_cell BK206.out 1).trans rfl; have hcz13_2 : w7.cell? ⟨gb206, 2, none⟩ = some (.int .i64 0) := (blk_cell BK206.out 2).trans rfl; have hfz13_0 := blk_frozen BK206.out 0; have hfz13_1 := blk_frozen BK206.out 1; have hfz13_2 := blk_frozen BK206.out 2))
    refine bodyPost_ret (results_ct rfl _ _ gb206 32 #[.bool a1_0, .slice Ao5 l1_1.length co5, .int .i64 a1_2] (0, 0) _ rfl (by (with_reducible repeat (first | refine blk_drewN ?_ _ | refine blk_drew ?_ | refine blk_alloc ?_ _)); refine blk_put (cs := #[.bool a1_0, .slice Ao5 l1_1.length co5, .int .i64 0]) ?_ 2 _ rfl; (with_reducible repeat (first | refine blk_drewN ?_ _ | refine blk_drew ?_ | refine blk_alloc ?_ _)); refine blk_put (cs := #[.bool a1_0, .slice none 0 0, .int .i64 0]) ?_ 1 _ rfl; (with_reducible repeat (first | refine blk_drewN ?_ _ | refine blk_drew ?_ | refine blk_alloc ?_ _)); refine blk_put (cs := #[.bool false, .slice none 0 0, .int .i64 0]) ?_ 0 _ rfl; (with_reducible repeat (first | refine blk_drewN ?_ _ | refine blk_drew ?_ | refine blk_alloc ?_ _)); exact BK206.out) Try.underlying32 rfl (by kernel_rfl)) rfl ?_
    exact ⟨_, by first | rfl | (simp [errW_none, errW_some] <;> rfl) | (simp [*, errW_none, errW_some] <;> rfl), by (with_reducible repeat (first | apply Kd.R_alloc | apply Kd.R_drewN | apply Kd.R_drew)); exact Kd.R_mono (Kd.R_far (p := ⟨gb206, 2, none⟩) (Kd.R_far (p := ⟨gb206, 1, none⟩) (Kd.R_far (p := ⟨gb206, 0, none⟩) (Kd.R_types HO1_1.out BK206.out (by decide)) (fun _ hk => hk.2) (.bool a1_0)) (fun _ hk => hk.2) (.slice Ao5 l1_1.length co5)) (fun _ hk => hk.2) (.int .i64 a1_2)) (fun _ hk => hk.1), by repeat (first | (with_reducible first | exact HB.out | apply below_alloc | apply pw_below_drewN | apply below_drew1 | refine below_set ?_ GE204.out | refine below_set ?_ GE205.out | refine below_set ?_ GE206.out) | exact HB.out), by repeat (first | (with_reducible first | exact HK.out | apply Kept.alloc | apply Kept.drewN | apply Kept.drew | refine Kept.setCell ?_ (.inr GW204.out) _ | refine Kept.setCell ?_ (.inr GW205.out) _ | refine Kept.setCell ?_ (.inr GW206.out) _) | exact HK.out)⟩
  · rw [if_neg c3] at H
    have c3b0 : ((l0_1.length : Int) == 0) = false := beq_eq_false_iff_ne.mpr c3
    have c3b1 : ((l0_1.length : Int) != 0) = true := bne_iff_ne.mpr c3
    have c3b2 : ¬ (l0_1 = []) := fun h_ => c3 (by rw [h_]; rfl)
    by_cases c14 : (l1_1.length : Int) = 0
    · rw [if_pos c14] at H
      exact absurd H (by simp)
    · rw [if_neg c14] at H
      have c14b0 : ((l1_1.length : Int) == 0) = false := beq_eq_false_iff_ne.mpr c14
      have c14b1 : ((l1_1.length : Int) != 0) = true := bne_iff_ne.mpr c14
      have c14b2 : ¬ (l1_1 = []) := fun h_ => c14 (by rw [h_]; rfl)
      obtain ⟨ji15, hji15⟩ : ∃ j_ : Int, (mn a0_2 a1_2) = j_ := ⟨_, rfl⟩
      replace H : (if (wrap64 (a0_2 - (ji15))) > 2000 then (spec_DecimalAdd.j0 k ji15 true a0_0 l0_1 a0_2 a1_0 l1_1 a1_2) else (spec_DecimalAdd.j0 k ji15 (decide ((wrap64 (a1_2 - (ji15))) > 2000)) a0_0 l0_1 a0_2 a1_0 l1_1 a1_2)) = some (r1, r2, r3, r4) := by first | (rw [hji15] at H; exact H) | (simp only [hji15] at H ⊢; exact H)
      have hji15_ : (if a1_2 < a0_2 then a1_2 else a0_2) = ji15 := hji15
      have HC16 := Aside0.mk H
      clear H
      go_enter Try.func10, Try.ntmps10
      go_upto_region 6 with (first | ((with_reducible refine gate_dst (N := 2) rfl ?_); refine box_event ?hg (N := 2) ?hd (cs := #[.bool a0_0, .slice A0_1 l0_1.length c0_1, .int .i64 a0_2]) (t := 32) ?hr ?_; (case hd => rfl); (case hg => rfl); (case hr => first | (go_simp; done) | (go_simp; rfl)); intro gb204 hg w17 hbox hb; have n0_ := Aside0.mk (Kd.R_below (by (with_reducible repeat (first | apply Kd.R_alloc | apply Kd.R_drewN | apply Kd.R_drew)); exact HO1_1.out) hb); have n1_ := Aside0.mk (Kept.below (S := (fun k_ => P1_1_ k_)) (by repeat (first | (with_reducible first | exact HK.out | apply Kept.alloc | apply Kept.drewN | apply Kept.drew) | exact HK.out)) hb); have n2_ := Aside0.mk (below_step (by repeat (first | (with_reducible first | exact HB.out | apply below_alloc | apply pw_below_drewN | apply below_drew1) | exact HB.out)) hb); have n3_ := Aside0.mk (hbox); have n4_ := Aside0.mk ((by rw [hg]; exact (by first | exact HK.out.1 | exact (show Kept w _ (fun k_ => P1_1_ k_) from by repeat (first | (with_reducible first | exact HK.out | apply Kept.alloc | apply Kept.drewN | apply Kept.drew) | exact HK.out)).1) : w.heap.size ≤ gb204)); have n5_ := Aside0.mk ((by rw [hg]; exact (below_size (by repeat (first | (with_reducible first | exact HB.out | apply below_alloc | apply pw_below_drewN | apply below_drew1) | exact HB.out))) : w0.heap.size ≤ gb204)); clear HO1_1; clear HK; clear HB; have HO1_1 := n0_; have HK := n1_; have HB := n2_; have BK204 := n3_; have GW204 := n4_; have GE204 := n5_; clear n0_ n1_ n2_ n3_ n4_ n5_; clear hb hbox hg; obtain ⟨Ao18, co18, eo18⟩ := Kd.R_slice HO1_1.out; subst eo18) | ((with_reducible refine gate_dst (N := 3) rfl ?_); refine box_event ?hg (N := 3) ?hd (cs := #[.bool a1_0, .slice Ao18 l1_1.length co18, .int .i64 a1_2]) (t := 32) ?hr ?_; (case hd => rfl); (case hg => rfl); (case hr => first | (go_simp; done) | (go_simp; rfl)); intro gb205 hg w19 hbox hb; have n0_ := Aside0.mk (Kd.R_below (by (with_reducible repeat (first | apply Kd.R_alloc | apply Kd.R_drewN | apply Kd.R_drew)); exact HO1_1.out) hb); have n1_ := Aside0.mk (blk_below (g := gb204) (o := .cells #[.bool a0_0, .slice A0_1 l0_1.length c0_1, .int .i64 a0_2] 32 (0, 0)) (by (with_reducible repeat (first | refine blk_drewN ?_ _ | refine blk_drew ?_ | refine blk_alloc ?_ _)); exact BK204.out) hb); have n2_ := Aside0.mk (Kept.below (S := (fun k_ => P1_1_ k_)) (by repeat (first | (with_reducible first | exact HK.out | apply Kept.alloc | apply Kept.drewN | apply Kept.drew | refine Kept.setCell ?_ (.inr GW204.out) _) | exact HK.out)) hb); have n3_ := Aside0.mk (below_step (by repeat (first | (with_reducible first | exact HB.out | apply below_alloc | apply pw_below_drewN | apply below_drew1 | refine below_set ?_ GE204.out) | exact HB.out)) hb); have n4_ := Aside0.mk (hbox); have n5_ := Aside0.mk ((by rw [hg]; exact (by first | exact HK.out.1 | exact (show Kept w _ (fun k_ => P1_1_ k_) from by repeat (first | (with_reducible first | exact HK.out | apply Kept.alloc | apply Kept.drewN | apply Kept.drew | refine Kept.setCell ?_ (.inr GW204.out) _) | exact HK.out)).1) : w.heap.size ≤ gb205)); have n6_ := Aside0.mk ((by rw [hg]; exact (below_size (by repeat (first | (with_reducible first | exact HB.out | apply below_alloc | apply pw_below_drewN | apply below_drew1 | refine below_set ?_ GE204.out) | exact HB.out))) : w0.heap.size ≤ gb205)); have n7_ := Aside0.mk ((by rw [hg]; exact Nat.ne_of_lt (blk_lt (g := gb204) (o := .cells #[.bool a0_0, .slice A0_1 l0_1.length c0_1, .int .i64 a0_2] 32 (0, 0)) (by (with_reducible repeat (first | refine blk_drewN ?_ _ | refine blk_drew ?_ | refine blk_alloc ?_ _)); exact BK204.out)) : gb204 ≠ gb205)); have n8_ := Aside0.mk ((by rw [hg]; exact Nat.ne_of_gt (blk_lt (g := gb204) (o := .cells #[.bool a0_0, .slice A0_1 l0_1.length c0_1, .int .i64 a0_2] 32 (0, 0)) (by (with_reducible repeat (first | refine blk_drewN ?_ _ | refine blk_drew ?_ | refine blk_alloc ?_ _)); exact BK204.out)) : gb205 ≠ gb204)); clear HO1_1; clear BK204; clear HK; clear HB; have HO1_1 := n0_; have BK204 := n1_; have HK := n2_; have HB := n3_; have BK205 := n4_; have GW205 := n5_; have GE205 := n6_; have NB204_205 := n7_; have NB205_204 := n8_; clear n0_ n1_ n2_ n3_ n4_ n5_ n6_ n7_ n8_; clear hb hbox hg) | ((with_reducible refine gate_dst (N := 4) rfl ?_); refine box_event ?hg (N := 4) ?hd (cs := #[.bool false, .slice none 0 0, .int .i64 0]) (t := 32) ?hr ?_; (case hd => rfl); (case hg => rfl); (case hr => first | (go_simp; done) | (go_simp; rfl)); intro gb206 hg w20 hbox hb; have n0_ := Aside0.mk (Kd.R_below (by (with_reducible repeat (first | apply Kd.R_alloc | apply Kd.R_drewN | apply Kd.R_drew)); exact HO1_1.out) hb); have n1_ := Aside0.mk (blk_below (g := gb204) (o := .cells #[.bool a0_0, .slice A0_1 l0_1.length c0_1, .int .i64 a0_2] 32 (0, 0)) (by (with_reducible repeat (first | refine blk_drewN ?_ _ | refine blk_drew ?_ | refine blk_alloc ?_ _)); exact BK204.out) hb); have n2_ := Aside0.mk (blk_below (g := gb205) (o := .cells #[.bool a1_0, .slice Ao18 l1_1.length co18, .int .i64 a1_2] 32 (0, 0)) (by (with_reducible repeat (first | refine blk_drewN ?_ _ | refine blk_drew ?_ | refine blk_alloc ?_ _)); exact BK205.out) hb); have n3_ := Aside0.mk (Kept.below (S := (fun k_ => P1_1_ k_)) (by repeat (first | (with_reducible first | exact HK.out | apply Kept.alloc | apply Kept.drewN | apply Kept.drew | refine Kept.setCell ?_ (.inr GW204.out) _ | refine Kept.setCell ?_ (.inr GW205.out) _) | exact HK.out)) hb); have n4_ := Aside0.mk (below_step (by repeat (first | (with_reducible first | exact HB.out | apply below_alloc | apply pw_below_drewN | apply below_drew1 | refine below_set ?_ GE204.out | refine below_set ?_ GE205.out) | exact HB.out)) hb); have n5_ := Aside0.mk (hbox); have n6_ := Aside0.mk ((by rw [hg]; exact (by first | exact HK.out.1 | exact (show Kept w _ (fun k_ => P1_1_ k_) from by repeat (first | (with_reducible first | exact HK.out | apply Kept.alloc | apply Kept.drewN | apply Kept.drew | refine Kept.setCell ?_ (.inr GW204.out) _ | refine Kept.setCell ?_ (.inr GW205.out) _) | exact HK.out)).1) : w.heap.size ≤ gb206)); have n7_ := Aside0.mk ((by rw [hg]; exact (below_size (by repeat (first | (with_reducible first | exact HB.out | apply below_alloc | apply pw_below_drewN | apply below_drew1 | refine below_set ?_ GE204.out | refine below_set ?_ GE205.out) | exact HB.out))) : w0.heap.size ≤ gb206)); have n8_ := Aside0.mk ((by rw [hg]; exact Nat.ne_of_lt (blk_lt (g := gb204) (o := .cells #[.bool a0_0, .slice A0_1 l0_1.length c0_1, .int .i64 a0_2] 32 (0, 0)) (by (with_reducible repeat (first | refine blk_drewN ?_ _ | refine blk_drew ?_ | refine blk_alloc ?_ _)); exact BK204.out)) : gb204 ≠ gb206)); have n9_ := Aside0.mk ((by rw [hg]; exact Nat.ne_of_gt (blk_lt (g := gb204) (o := .cells #[.bool a0_0, .slice A0_1 l0_1.length c0_1, .int .i64 a0_2] 32 (0, 0)) (by (with_reducible repeat (first | refine blk_drewN ?_ _ | refine blk_drew ?_ | refine blk_alloc ?_ _)); exact BK204.out)) : gb206 ≠ gb204)); have n10_ := Aside0.mk ((by rw [hg]; exact Nat.ne_of_lt (blk_lt (g := gb205) (o := .cells #[.bool a1_0, .slice Ao18 l1_1.length co18, .int .i64 a1_2] 32 (0, 0)) (by (with_reducible repeat (first | refine blk_drewN ?_ _ | refine blk_drew ?_ | refine blk_alloc ?_ _)); exact BK205.out)) : gb205 ≠ gb206)); have n11_ := Aside0.mk ((by rw [hg]; exact Nat.ne_of_gt (blk_lt (g := gb205) (o := .cells #[.bool a1_0, .slice Ao18 l1_1.length co18, .int .i64 a1_2] 32 (0, 0)) (by (with_reducible repeat (first | refine blk_drewN ?_ _ | refine blk_drew ?_ | refine blk_alloc ?_ _)); exact BK205.out)) : gb206 ≠ gb205)); clear HO1_1; clear BK204; clear BK205; clear HK; clear HB; have HO1_1 := n0_; have BK204 := n1_; have BK205 := n2_; have HK := n3_; have HB := n4_; have BK206 := n5_; have GW206 := n6_; have GE206 := n7_; have NB204_206 := n8_; have NB206_204 := n9_; have NB205_206 := n10_; have NB206_205 := n11_; clear n0_ n1_ n2_ n3_ n4_ n5_ n6_ n7_ n8_ n9_ n10_ n11_; clear hb hbox hg; have hnb21 := NB204_205.out; have hnc21 := NB205_204.out; have hnb22 := NB204_206.out; have hnc22 := NB206_204.out; have hcz23_0 : w20.cell? ⟨gb204, 0, none⟩ = some (.bool a0_0) := (blk_cell BK204.out 0).trans rfl; have hcz23_1 : w20.cell? ⟨gb204, 1, none⟩ = some (.slice A0_1 l0_1.length c0_1) := (blk_cell BK204.out 1).trans rfl; have hcz23_2 : w20.cell? ⟨gb204, 2, none⟩ = some (.int .i64 a0_2) := (blk_cell BK204.out 2).trans rfl; have hfz23_0 := blk_frozen BK204.out 0; have hfz23_1 := blk_frozen BK204.out 1; have hfz23_2 := blk_frozen BK204.out 2; have hnb24 := NB205_206.out; have hnc24 := NB206_205.out; have hcz25_0 : w20.cell? ⟨gb205, 0, none⟩ = some (.bool a1_0) := (blk_cell BK205.out 0).trans rfl; have hcz25_1 : w20.cell? ⟨gb205, 1, none⟩ = some (.slice Ao18 l1_1.length co18) := (blk_cell BK205.out 1).trans rfl; have hcz25_2 : w20.cell? ⟨gb205, 2, none⟩ = some (.int .i64 a1_2) := (blk_cell BK205.out 2).trans rfl; have hfz25_0 := blk_frozen BK205.out 0; have hfz25_1 := blk_frozen BK205.out 1; have hfz25_2 := blk_frozen BK205.out 2))
      (try simp only [Act.put, List.setIfInBounds_toArray, List.set_cons_zero, List.set_cons_succ])
      go_cut [33] (fun v33 wc => ∃ (kq : Nat) (x33_15 : Bool), v33 = .bool x33_15 ∧ Aside0 (spec_DecimalAdd.j0 kq ji15 x33_15 a0_0 l0_1 a0_2 a1_0 l1_1 a1_2 = some (r1, r2, r3, r4)) ∧ Aside0 (kq ≤ k) ∧ Aside0 (Kd.R (Kd.int .i64) 3 wc w0.heap.size (fun k_ => (P1_1_ k_ ∨ w.heap.size ≤ k_)) (.slice Ao18 l1_1.length co18) l1_1) ∧ Aside0 (wc.heap[gb204]? = some (.cells #[.bool a0_0, (.slice A0_1 l0_1.length c0_1), .int .i64 a0_2] 32 (0, 0))) ∧ Aside0 (wc.heap[gb205]? = some (.cells #[.bool a1_0, (.slice Ao18 l1_1.length co18), .int .i64 a1_2] 32 (0, 0))) ∧ Aside0 (wc.heap[gb206]? = some (.cells #[.bool false, (.slice none 0 0), .int .i64 0] 32 (0, 0))) ∧ Aside0 (Kept w wc (fun k_ => P1_1_ k_)) ∧ Aside0 (Below w0.heap.size w0 wc))
      case first =>
        have H := HC16.out
        clear HC16
        by_cases c26 : (wrap64 (a0_2 - (ji15))) > 2000
        · rw [if_pos c26] at H
          have c26b0 : decide (2000 < (wrap64 (a0_2 - (ji15)))) = true := decide_eq_true c26
          clear c26
          (first | rw [c26b0] | (simp only [i64_w, i32_w]; rw [c26b0]) | skip)
          have H' := Aside0.mk H
          clear H
          have hnb27 := NB204_205.out
          have hnc27 := NB205_204.out
          have hnb28 := NB204_206.out
          have hnc28 := NB206_204.out
          have hcz29_0 : w20.cell? ⟨gb204, 0, none⟩ = some (.bool a0_0) := (blk_cell BK204.out 0).trans rfl
          have hcz29_1 : w20.cell? ⟨gb204, 1, none⟩ = some (.slice A0_1 l0_1.length c0_1) := (blk_cell BK204.out 1).trans rfl
          have hcz29_2 : w20.cell? ⟨gb204, 2, none⟩ = some (.int .i64 a0_2) := (blk_cell BK204.out 2).trans rfl
          have hfz29_0 := blk_frozen BK204.out 0
          have hfz29_1 := blk_frozen BK204.out 1
          have hfz29_2 := blk_frozen BK204.out 2
          go_wp2
          go_meet
          case rel => exact ⟨_, (true), (by first | rfl | (simp; done) | (simp [*]; done)), H', ⟨by first | omega | exact Nat.le_refl _⟩, ⟨by (with_reducible repeat (first | apply Kd.R_alloc | apply Kd.R_drewN | apply Kd.R_drew)); exact HO1_1.out⟩, ⟨by (with_reducible repeat (first | refine blk_drewN ?_ _ | refine blk_drew ?_ | refine blk_alloc ?_ _)); exact BK204.out⟩, ⟨by (with_reducible repeat (first | refine blk_drewN ?_ _ | refine blk_drew ?_ | refine blk_alloc ?_ _)); exact BK205.out⟩, ⟨by (with_reducible repeat (first | refine blk_drewN ?_ _ | refine blk_drew ?_ | refine blk_alloc ?_ _)); exact BK206.out⟩, ⟨by repeat (first | (with_reducible first | exact HK.out | apply Kept.alloc | apply Kept.drewN | apply Kept.drew | refine Kept.setCell ?_ (.inr GW204.out) _ | refine Kept.setCell ?_ (.inr GW205.out) _ | refine Kept.setCell ?_ (.inr GW206.out) _) | exact HK.out)⟩, ⟨by repeat (first | (with_reducible first | exact HB.out | apply below_alloc | apply pw_below_drewN | apply below_drew1 | refine below_set ?_ GE204.out | refine below_set ?_ GE205.out | refine below_set ?_ GE206.out) | exact HB.out)⟩⟩
        · rw [if_neg c26] at H
          have c26b0 : decide (2000 < (wrap64 (a0_2 - (ji15)))) = false := decide_eq_false c26
          clear c26
          (first | rw [c26b0] | (simp only [i64_w, i32_w]; rw [c26b0]) | skip)
          have H' := Aside0.mk H
          clear H
          have hnb30 := NB204_205.out
          have hnc30 := NB205_204.out
          have hnb31 := NB204_206.out
          have hnc31 := NB206_204.out
          have hcz32_0 : w20.cell? ⟨gb204, 0, none⟩ = some (.bool a0_0) := (blk_cell BK204.out 0).trans rfl
          have hcz32_1 : w20.cell? ⟨gb204, 1, none⟩ = some (.slice A0_1 l0_1.length c0_1) := (blk_cell BK204.out 1).trans rfl
          have hcz32_2 : w20.cell? ⟨gb204, 2, none⟩ = some (.int .i64 a0_2) := (blk_cell BK204.out 2).trans rfl
          have hfz32_0 := blk_frozen BK204.out 0
          have hfz32_1 := blk_frozen BK204.out 1
          have hfz32_2 := blk_frozen BK204.out 2
          have hnb33 := NB205_206.out
          have hnc33 := NB206_205.out
          have hcz34_0 : w20.cell? ⟨gb205, 0, none⟩ = some (.bool a1_0) := (blk_cell BK205.out 0).trans rfl
          have hcz34_1 : w20.cell? ⟨gb205, 1, none⟩ = some (.slice Ao18 l1_1.length co18) := (blk_cell BK205.out 1).trans rfl
          have hcz34_2 : w20.cell? ⟨gb205, 2, none⟩ = some (.int .i64 a1_2) := (blk_cell BK205.out 2).trans rfl
          have hfz34_0 := blk_frozen BK205.out 0
          have hfz34_1 := blk_frozen BK205.out 1
          have hfz34_2 := blk_frozen BK205.out 2
          go_wp2
          go_meet
          case rel => exact ⟨_, (decide ((wrap64 (a1_2 - (ji15))) > 2000)), (by first | rfl | (simp; done) | (simp only [← hji15] <;> (first | rfl | simp)) | (simp [*]; done)), H', ⟨by first | omega | exact Nat.le_refl _⟩, ⟨by (with_reducible repeat (first | apply Kd.R_alloc | apply Kd.R_drewN | apply Kd.R_drew)); exact HO1_1.out⟩, ⟨by (with_reducible repeat (first | refine blk_drewN ?_ _ | refine blk_drew ?_ | refine blk_alloc ?_ _)); exact BK204.out⟩, ⟨by (with_reducible repeat (first | refine blk_drewN ?_ _ | refine blk_drew ?_ | refine blk_alloc ?_ _)); exact BK205.out⟩, ⟨by (with_reducible repeat (first | refine blk_drewN ?_ _ | refine blk_drew ?_ | refine blk_alloc ?_ _)); exact BK206.out⟩, ⟨by repeat (first | (with_reducible first | exact HK.out | apply Kept.alloc | apply Kept.drewN | apply Kept.drew | refine Kept.setCell ?_ (.inr GW204.out) _ | refine Kept.setCell ?_ (.inr GW205.out) _ | refine Kept.setCell ?_ (.inr GW206.out) _) | exact HK.out)⟩, ⟨by repeat (first | (with_reducible first | exact HB.out | apply below_alloc | apply pw_below_drewN | apply below_drew1 | refine below_set ?_ GE204.out | refine below_set ?_ GE205.out | refine below_set ?_ GE206.out) | exact HB.out)⟩⟩
      case rest =>
        clear HC16
        try clear c1
        try clear c2
        try clear p2
        try clear c3
        try clear c3b0
        try clear c3b1
        try clear c3b2
        try clear p6
        try clear c8
        try clear c9
        try clear c10
        try clear c11
        try clear c14
        try clear c14b0
        try clear c14b1
        try clear c14b2
        try clear c21
        try clear c22
        try clear c24
        try clear c26
        try clear c26b0
        try clear c27
        try clear c28
        try clear c30
        try clear c31
        try clear c33
        try clear hcz10_0
        try clear hcz10_1
        try clear hcz10_2
        try clear hcz12_0
        try clear hcz12_1
        try clear hcz12_2
        try clear hcz13_0
        try clear hcz13_1
        try clear hcz13_2
        try clear hcz23_0
        try clear hcz23_1
        try clear hcz23_2
        try clear hcz25_0
        try clear hcz25_1
        try clear hcz25_2
        try clear hcz29_0
        try clear hcz29_1
        try clear hcz29_2
        try clear hcz32_0
        try clear hcz32_1
        try clear hcz32_2
        try clear hcz34_0
        try clear hcz34_1
        try clear hcz34_2
        try clear hfz10_0
        try clear hfz10_1
        try clear hfz10_2
        try clear hfz12_0
        try clear hfz12_1
        try clear hfz12_2
        try clear hfz13_0
        try clear hfz13_1
        try clear hfz13_2
        try clear hfz23_0
        try clear hfz23_1
        try clear hfz23_2
        try clear hfz25_0
        try clear hfz25_1
        try clear hfz25_2
        try clear hfz29_0
        try clear hfz29_1
        try clear hfz29_2
        try clear hfz32_0
        try clear hfz32_1
        try clear hfz32_2
        try clear hfz34_0
        try clear hfz34_1
        try clear hfz34_2
        obtain ⟨kq, x33_15, rfl, HA, HJ15, HO_206001, BK204, BK205, BK206, HK, HB⟩ := hcut
        cases kq with
        | zero => exact absurd HA.out (by simp [spec_DecimalAdd.j0])
        | succ kj15 =>
          have H := HA.out
          clear HA
          simp only [spec_DecimalAdd.j0] at H
          by_cases c35 : x33_15 = true
          · subst c35
            have H1 : (some (false, ([] : List Int), 0, false)) = some (r1, r2, r3, r4) := by rw [if_pos rfl] at H; exact H
            clear H
            have H := H1
            clear H1
            simp only [Option.some.injEq, Prod.mk.injEq] at H
            obtain ⟨rfl, rfl, rfl, rfl⟩ := H
            have hnb36 := NB206_204.out
            have hnc36 := NB204_206.out
            have hnb37 := NB206_205.out
            have hnc37 := NB205_206.out
            have hcz38_0 : wc.cell? ⟨gb206, 0, none⟩ = some (.bool false) := (blk_cell BK206.out 0).trans rfl
            have hcz38_1 : wc.cell? ⟨gb206, 1, none⟩ = some (.slice none 0 0) := (blk_cell BK206.out 1).trans rfl
            have hcz38_2 : wc.cell? ⟨gb206, 2, none⟩ = some (.int .i64 0) := (blk_cell BK206.out 2).trans rfl
            have hfz38_0 := blk_frozen BK206.out 0
            have hfz38_1 := blk_frozen BK206.out 1
            have hfz38_2 := blk_frozen BK206.out 2
            go_wp2
            refine bodyPost_ret (results_ct rfl _ _ gb206 32 #[.bool false, .slice none 0 0, .int .i64 0] (0, 0) _ rfl (by (with_reducible repeat (first | refine blk_drewN ?_ _ | refine blk_drew ?_ | refine blk_alloc ?_ _)); refine blk_put (cs := #[.bool false, .slice none 0 0, .int .i64 0]) ?_ 2 _ rfl; (with_reducible repeat (first | refine blk_drewN ?_ _ | refine blk_drew ?_ | refine blk_alloc ?_ _)); refine blk_put (cs := #[.bool false, .slice none 0 0, .int .i64 0]) ?_ 1 _ rfl; (with_reducible repeat (first | refine blk_drewN ?_ _ | refine blk_drew ?_ | refine blk_alloc ?_ _)); refine blk_put (cs := #[.bool false, .slice none 0 0, .int .i64 0]) ?_ 0 _ rfl; (with_reducible repeat (first | refine blk_drewN ?_ _ | refine blk_drew ?_ | refine blk_alloc ?_ _)); exact BK206.out) Try.underlying32 rfl (by kernel_rfl)) rfl ?_
            exact ⟨_, by first | rfl | (simp [errW_none, errW_some] <;> rfl) | (simp only [← hji15]; first | rfl | (simp [errW_none, errW_some] <;> rfl)) | (simp [*, errW_none, errW_some] <;> rfl), by first | exact Kd.R_nil _ _ _ _ _ | exact Kd.N_nil _ _ _ _ _ | exact Kd.V_nil _ _ _ _ _ | exact Kd.Q_nil _ _ _ _ _ | exact Kd.S_nil _ _ _ _ _, by repeat (first | (with_reducible first | exact HB.out | apply below_alloc | apply pw_below_drewN | apply below_drew1 | refine below_set ?_ GE204.out | refine below_set ?_ GE205.out | refine below_set ?_ GE206.out) | exact HB.out), by repeat (first | (with_reducible first | exact HK.out | apply Kept.alloc | apply Kept.drewN | apply Kept.drew | refine Kept.setCell ?_ (.inr GW204.out) _ | refine Kept.setCell ?_ (.inr GW205.out) _ | refine Kept.setCell ?_ (.inr GW206.out) _) | exact HK.out)⟩
          · replace c35 := Bool.eq_false_iff.mpr c35
            subst c35
            have H1 : (if (a0_0 != a1_0) = true then ((spec_larger.f kj15 a0_0 l0_1 a0_2 a1_0 l1_1 a1_2).bind fun t207 => (spec_DecimalAdd.j1 kj15 ji15 (decide (t207 < 0)) a0_0 l0_1 a0_2 a1_0 l1_1 a1_2)) else (spec_DecimalAdd.j1 kj15 ji15 false a0_0 l0_1 a0_2 a1_0 l1_1 a1_2)) = some (r1, r2, r3, r4) := by rw [if_neg (show ¬ (false = true) by decide)] at H; exact H
            clear H
            have H := H1
            clear H1
            have HC39 := Aside0.mk H
            clear H
            go_upto_region 8 with (fail)
            go_cut [45] (fun v45 wc => ∃ (kq : Nat) (x45_38 : Bool), v45 = .bool x45_38 ∧ Aside0 (spec_DecimalAdd.j1 kq ji15 x45_38 a0_0 l0_1 a0_2 a1_0 l1_1 a1_2 = some (r1, r2, r3, r4)) ∧ Aside0 (kq ≤ kj15) ∧ Aside0 (Kd.R (Kd.int .i64) 3 wc w0.heap.size (fun k_ => (P1_1_ k_ ∨ w.heap.size ≤ k_)) (.slice Ao18 l1_1.length co18) l1_1) ∧ Aside0 (wc.heap[gb204]? = some (.cells #[.bool a0_0, (.slice A0_1 l0_1.length c0_1), .int .i64 a0_2] 32 (0, 0))) ∧ Aside0 (wc.heap[gb205]? = some (.cells #[.bool a1_0, (.slice Ao18 l1_1.length co18), .int .i64 a1_2] 32 (0, 0))) ∧ Aside0 (wc.heap[gb206]? = some (.cells #[.bool false, (.slice none 0 0), .int .i64 0] 32 (0, 0))) ∧ Aside0 (Kept w wc (fun k_ => P1_1_ k_)) ∧ Aside0 (Below w0.heap.size w0 wc))
            case first =>
              have H := HC39.out
              clear HC39
              by_cases c40 : (a0_0 != a1_0) = true
              · rw [if_pos c40] at H
                have c40b0 : (a0_0 != a1_0) = true := c40
                (try (have c40b1 : decide (a0_0 = a1_0) = false := by simpa using c40))
                (try (have c40b2 : (a0_0 == a1_0) = false := by simpa using c40))
                (try (have c40b3 : ¬ (a0_0 = a1_0) := by simpa using c40))
                clear c40
                (first | rw [c40b0] | (simp only [i64_w, i32_w]; rw [c40b0]) | skip)
                replace H := Option.bind_eq_some_iff.mp H
                obtain ⟨t207, A410, H⟩ := H
                replace H : (spec_DecimalAdd.j1 kj15 ji15 (decide (t207 < 0)) a0_0 l0_1 a0_2 a1_0 l1_1 a1_2) = some (r1, r2, r3, r4) := H
                have A41 := Aside0.mk A410
                clear A410
                have H' := Aside0.mk H
                clear H
                have hnb42 := NB204_205.out
                have hnc42 := NB205_204.out
                have hnb43 := NB204_206.out
                have hnc43 := NB206_204.out
                have hcz44_0 : wc.cell? ⟨gb204, 0, none⟩ = some (.bool a0_0) := (blk_cell BK204.out 0).trans rfl
                have hcz44_1 : wc.cell? ⟨gb204, 1, none⟩ = some (.slice A0_1 l0_1.length c0_1) := (blk_cell BK204.out 1).trans rfl
                have hcz44_2 : wc.cell? ⟨gb204, 2, none⟩ = some (.int .i64 a0_2) := (blk_cell BK204.out 2).trans rfl
                have hfz44_0 := blk_frozen BK204.out 0
                have hfz44_1 := blk_frozen BK204.out 1
                have hfz44_2 := blk_frozen BK204.out 2
                have hnb45 := NB205_206.out
                have hnc45 := NB206_205.out
                have hcz46_0 : wc.cell? ⟨gb205, 0, none⟩ = some (.bool a1_0) := (blk_cell BK205.out 0).trans rfl
                have hcz46_1 : wc.cell? ⟨gb205, 1, none⟩ = some (.slice Ao18 l1_1.length co18) := (blk_cell BK205.out 1).trans rfl
                have hcz46_2 : wc.cell? ⟨gb205, 2, none⟩ = some (.int .i64 a1_2) := (blk_cell BK205.out 2).trans rfl
                have hfz46_0 := blk_frozen BK205.out 0
                have hfz46_1 := blk_frozen BK205.out 1
                have hfz46_2 := blk_frozen BK205.out 2
                go_wp2_with (first | (go_at_call 23; (with_reducible refine (spec_larger.calls kj15 a0_0 _ _ l0_1 a0_2 a1_0 _ _ l1_1 a1_2 t207 _ ?side1 ?side2 ?side3 ?side4 A41.out).mono ?_); (case side1 => exact Kd.C_kept_now HR0_1.out (by repeat (first | (with_reducible first | exact HK.out | apply Kept.alloc | apply Kept.drewN | apply Kept.drew | refine Kept.setCell ?_ (.inr GW204.out) _ | refine Kept.setCell ?_ (.inr GW205.out) _ | refine Kept.setCell ?_ (.inr GW206.out) _) | exact HK.out))); (case side2 => exact HC0_1.out); (case side3 => repeat (first | exact (Kd.R_reads' HO_206001.out).2.2 | (with_reducible refine Kd.C_alloc ?_ _) | (with_reducible refine Kd.C_drewN ?_ _) | (with_reducible refine Kd.C_drew ?_))); (case side4 => exact (Kd.R_reads' HO_206001.out).2.1); rintro e w47 ⟨rfl, hb⟩; have n0_ := Aside0.mk (Kd.R_below (by (with_reducible repeat (first | apply Kd.R_alloc | apply Kd.R_drewN | apply Kd.R_drew)); exact HO_206001.out) hb); have n1_ := Aside0.mk (blk_below (g := gb204) (o := .cells #[.bool a0_0, .slice A0_1 l0_1.length c0_1, .int .i64 a0_2] 32 (0, 0)) (by (with_reducible repeat (first | refine blk_drewN ?_ _ | refine blk_drew ?_ | refine blk_alloc ?_ _)); exact BK204.out) hb); have n2_ := Aside0.mk (blk_below (g := gb205) (o := .cells #[.bool a1_0, .slice Ao18 l1_1.length co18, .int .i64 a1_2] 32 (0, 0)) (by (with_reducible repeat (first | refine blk_drewN ?_ _ | refine blk_drew ?_ | refine blk_alloc ?_ _)); exact BK205.out) hb); have n3_ := Aside0.mk (blk_below (g := gb206) (o := .cells #[.bool false, .slice none 0 0, .int .i64 0] 32 (0, 0)) (by (with_reducible repeat (first | refine blk_drewN ?_ _ | refine blk_drew ?_ | refine blk_alloc ?_ _)); exact BK206.out) hb); have n4_ := Aside0.mk (Kept.below (S := (fun k_ => P1_1_ k_)) (by repeat (first | (with_reducible first | exact HK.out | apply Kept.alloc | apply Kept.drewN | apply Kept.drew | refine Kept.setCell ?_ (.inr GW204.out) _ | refine Kept.setCell ?_ (.inr GW205.out) _ | refine Kept.setCell ?_ (.inr GW206.out) _) | exact HK.out)) hb); have n5_ := Aside0.mk (below_step (by repeat (first | (with_reducible first | exact HB.out | apply below_alloc | apply pw_below_drewN | apply below_drew1 | refine below_set ?_ GE204.out | refine below_set ?_ GE205.out | refine below_set ?_ GE206.out) | exact HB.out)) hb); clear HO_206001; clear BK204; clear BK205; clear BK206; clear HK; clear HB; have HO_206001 := n0_; have BK204 := n1_; have BK205 := n2_; have BK206 := n3_; have HK := n4_; have HB := n5_; clear n0_ n1_ n2_ n3_ n4_ n5_; (try clear hb); (try clear hb2); (try clear hk); (try clear hi)))
                go_meet
                case rel => exact ⟨_, (decide (t207 < 0)), (by first | rfl | (simp; done) | (simp [*]; done)), H', ⟨by have := HJ15.out; first | omega | exact Nat.le_refl _⟩, ⟨by (with_reducible repeat (first | apply Kd.R_alloc | apply Kd.R_drewN | apply Kd.R_drew)); exact HO_206001.out⟩, ⟨by (with_reducible repeat (first | refine blk_drewN ?_ _ | refine blk_drew ?_ | refine blk_alloc ?_ _)); exact BK204.out⟩, ⟨by (with_reducible repeat (first | refine blk_drewN ?_ _ | refine blk_drew ?_ | refine blk_alloc ?_ _)); exact BK205.out⟩, ⟨by (with_reducible repeat (first | refine blk_drewN ?_ _ | refine blk_drew ?_ | refine blk_alloc ?_ _)); exact BK206.out⟩, ⟨by repeat (first | (with_reducible first | exact HK.out | apply Kept.alloc | apply Kept.drewN | apply Kept.drew | refine Kept.setCell ?_ (.inr GW204.out) _ | refine Kept.setCell ?_ (.inr GW205.out) _ | refine Kept.setCell ?_ (.inr GW206.out) _) | exact HK.out)⟩, ⟨by repeat (first | (with_reducible first | exact HB.out | apply below_alloc | apply pw_below_drewN | apply below_drew1 | refine below_set ?_ GE204.out | refine below_set ?_ GE205.out | refine below_set ?_ GE206.out) | exact HB.out)⟩⟩
              · rw [if_neg c40] at H
                have c40b0 : (a0_0 != a1_0) = false := by simpa using c40
                (try (have c40b1 : decide (a0_0 = a1_0) = true := by simpa using c40))
                (try (have c40b2 : (a0_0 == a1_0) = true := by simpa using c40))
                clear c40
                (first | rw [c40b0] | (simp only [i64_w, i32_w]; rw [c40b0]) | skip)
                have H' := Aside0.mk H
                clear H
                have hnb48 := NB204_205.out
                have hnc48 := NB205_204.out
                have hnb49 := NB204_206.out
                have hnc49 := NB206_204.out
                have hcz50_0 : wc.cell? ⟨gb204, 0, none⟩ = some (.bool a0_0) := (blk_cell BK204.out 0).trans rfl
                have hcz50_1 : wc.cell? ⟨gb204, 1, none⟩ = some (.slice A0_1 l0_1.length c0_1) := (blk_cell BK204.out 1).trans rfl
                have hcz50_2 : wc.cell? ⟨gb204, 2, none⟩ = some (.int .i64 a0_2) := (blk_cell BK204.out 2).trans rfl
                have hfz50_0 := blk_frozen BK204.out 0
                have hfz50_1 := blk_frozen BK204.out 1
                have hfz50_2 := blk_frozen BK204.out 2
                have hnb51 := NB205_206.out
                have hnc51 := NB206_205.out
                have hcz52_0 : wc.cell? ⟨gb205, 0, none⟩ = some (.bool a1_0) := (blk_cell BK205.out 0).trans rfl
                have hcz52_1 : wc.cell? ⟨gb205, 1, none⟩ = some (.slice Ao18 l1_1.length co18) := (blk_cell BK205.out 1).trans rfl
                have hcz52_2 : wc.cell? ⟨gb205, 2, none⟩ = some (.int .i64 a1_2) := (blk_cell BK205.out 2).trans rfl
                have hfz52_0 := blk_frozen BK205.out 0
                have hfz52_1 := blk_frozen BK205.out 1
                have hfz52_2 := blk_frozen BK205.out 2
                go_wp2
                go_meet
                case rel => exact ⟨_, (false), (by first | rfl | (simp; done) | (simp [*]; done)), H', ⟨by have := HJ15.out; first | omega | exact Nat.le_refl _⟩, ⟨by (with_reducible repeat (first | apply Kd.R_alloc | apply Kd.R_drewN | apply Kd.R_drew)); exact HO_206001.out⟩, ⟨by (with_reducible repeat (first | refine blk_drewN ?_ _ | refine blk_drew ?_ | refine blk_alloc ?_ _)); exact BK204.out⟩, ⟨by (with_reducible repeat (first | refine blk_drewN ?_ _ | refine blk_drew ?_ | refine blk_alloc ?_ _)); exact BK205.out⟩, ⟨by (with_reducible repeat (first | refine blk_drewN ?_ _ | refine blk_drew ?_ | refine blk_alloc ?_ _)); exact BK206.out⟩, ⟨by repeat (first | (with_reducible first | exact HK.out | apply Kept.alloc | apply Kept.drewN | apply Kept.drew | refine Kept.setCell ?_ (.inr GW204.out) _ | refine Kept.setCell ?_ (.inr GW205.out) _ | refine Kept.setCell ?_ (.inr GW206.out) _) | exact HK.out)⟩, ⟨by repeat (first | (with_reducible first | exact HB.out | apply below_alloc | apply pw_below_drewN | apply below_drew1 | refine below_set ?_ GE204.out | refine below_set ?_ GE205.out | refine below_set ?_ GE206.out) | exact HB.out)⟩⟩
            case rest =>
              clear HC39
              try clear c1
              try clear c2
              try clear p2
              try clear c3
              try clear c3b0
              try clear c3b1
              try clear c3b2
              try clear c4
              try clear c5
              try clear p6
              try clear c8
              try clear c9
              try clear c10
              try clear c11
              try clear c14
              try clear c14b0
              try clear c14b1
              try clear c14b2
              try clear c21
              try clear c22
              try clear c24
              try clear c26
              try clear c26b0
              try clear c27
              try clear c28
              try clear c30
              try clear c31
              try clear c33
              try clear c35
              try clear c36
              try clear c37
              try clear c40
              try clear c40b0
              try clear c40b1
              try clear c40b2
              try clear c42
              try clear c43
              try clear c45
              try clear c48
              try clear c49
              try clear c51
              try clear hcz10_0
              try clear hcz10_1
              try clear hcz10_2
              try clear hcz12_0
              try clear hcz12_1
              try clear hcz12_2
              try clear hcz13_0
              try clear hcz13_1
              try clear hcz13_2
              try clear hcz23_0
              try clear hcz23_1
              try clear hcz23_2
              try clear hcz25_0
              try clear hcz25_1
              try clear hcz25_2
              try clear hcz29_0
              try clear hcz29_1
              try clear hcz29_2
              try clear hcz32_0
              try clear hcz32_1
              try clear hcz32_2
              try clear hcz34_0
              try clear hcz34_1
              try clear hcz34_2
              try clear hcz38_0
              try clear hcz38_1
              try clear hcz38_2
              try clear hcz44_0
              try clear hcz44_1
              try clear hcz44_2
              try clear hcz46_0
              try clear hcz46_1
              try clear hcz46_2
              try clear hcz50_0
              try clear hcz50_1
              try clear hcz50_2
              try clear hcz52_0
              try clear hcz52_1
              try clear hcz52_2
              try clear hfz10_0
              try clear hfz10_1
              try clear hfz10_2
              try clear hfz12_0
              try clear hfz12_1
              try clear hfz12_2
              try clear hfz13_0
              try clear hfz13_1
              try clear hfz13_2
              try clear hfz23_0
              try clear hfz23_1
              try clear hfz23_2
              try clear hfz25_0
              try clear hfz25_1
              try clear hfz25_2
              try clear hfz29_0
              try clear hfz29_1
              try clear hfz29_2
              try clear hfz32_0
              try clear hfz32_1
              try clear hfz32_2
              try clear hfz34_0
              try clear hfz34_1
              try clear hfz34_2
              try clear hfz38_0
              try clear hfz38_1
              try clear hfz38_2
              try clear hfz44_0
              try clear hfz44_1
              try clear hfz44_2
              try clear hfz46_0
              try clear hfz46_1
              try clear hfz46_2
              try clear hfz50_0
              try clear hfz50_1
              try clear hfz50_2
              try clear hfz52_0
              try clear hfz52_1
              try clear hfz52_2
              try clear p2
              try clear p6
              obtain ⟨kq, x45_38, rfl, HA, HJ38, HO_206001, BK204, BK205, BK206, HK, HB⟩ := hcut
              cases kq with
              | zero => exact absurd HA.out (by simp [spec_DecimalAdd.j1])
              | succ kj38 =>
                have H := HA.out
                clear HA
                simp only [spec_DecimalAdd.j1] at H
                by_cases c53 : x45_38 = true
                · subst c53
                  have H1 : ((spec_wide.f kj38 a1_0 l1_1 a1_2 ji15).bind fun t208 => ((spec_wide.f kj38 a0_0 l0_1 a0_2 ji15).bind fun t211 => ((spec_sum.f kj38 a1_0 t208 t211 (a1_0 != a0_0) ji15).bind fun bt214 => (some (bt214.1, bt214.2.1, bt214.2.2, true))))) = some (r1, r2, r3, r4) := by rw [if_pos rfl] at H; exact H
                  clear H
                  have H := H1
                  clear H1
                  replace H := Option.bind_eq_some_iff.mp H
                  obtain ⟨t208, A540, H⟩ := H
                  replace H : ((spec_wide.f kj38 a0_0 l0_1 a0_2 ji15).bind fun t211 => ((spec_sum.f kj38 a1_0 t208 t211 (a1_0 != a0_0) ji15).bind fun bt214 => (some (bt214.1, bt214.2.1, bt214.2.2, true)))) = some (r1, r2, r3, r4) := H
                  have A54 := Aside0.mk A540
                  clear A540
                  replace H := Option.bind_eq_some_iff.mp H
                  obtain ⟨t211, A550, H⟩ := H
                  replace H : ((spec_sum.f kj38 a1_0 t208 t211 (a1_0 != a0_0) ji15).bind fun bt214 => (some (bt214.1, bt214.2.1, bt214.2.2, true))) = some (r1, r2, r3, r4) := H
                  have A55 := Aside0.mk A550
                  clear A550
                  replace H := Option.bind_eq_some_iff.mp H
                  obtain ⟨⟨t214, t215, t218⟩, A560, H⟩ := H
                  replace H : (some (t214, t215, t218, true)) = some (r1, r2, r3, r4) := H
                  have A56 := Aside0.mk A560
                  clear A560
                  simp only [Option.some.injEq, Prod.mk.injEq] at H
                  obtain ⟨rfl, rfl, rfl, rfl⟩ := H
                  have hnb57 := NB205_204.out
                  have hnc57 := NB204_205.out
                  have hnb58 := NB205_206.out
                  have hnc58 := NB206_205.out
                  have hcz59_0 : wc.cell? ⟨gb205, 0, none⟩ = some (.bool a1_0) := (blk_cell BK205.out 0).trans rfl
                  have hcz59_1 : wc.cell? ⟨gb205, 1, none⟩ = some (.slice Ao18 l1_1.length co18) := (blk_cell BK205.out 1).trans rfl
                  have hcz59_2 : wc.cell? ⟨gb205, 2, none⟩ = some (.int .i64 a1_2) := (blk_cell BK205.out 2).trans rfl
                  have hfz59_0 := blk_frozen BK205.out 0
                  have hfz59_1 := blk_frozen BK205.out 1
                  have hfz59_2 := blk_frozen BK205.out 2
                  have hnb60 := NB204_206.out
                  have hnc60 := NB206_204.out
                  have hcz61_0 : wc.cell? ⟨gb204, 0, none⟩ = some (.bool a0_0) := (blk_cell BK204.out 0).trans rfl
                  have hcz61_1 : wc.cell? ⟨gb204, 1, none⟩ = some (.slice A0_1 l0_1.length c0_1) := (blk_cell BK204.out 1).trans rfl
                  have hcz61_2 : wc.cell? ⟨gb204, 2, none⟩ = some (.int .i64 a0_2) := (blk_cell BK204.out 2).trans rfl
                  have hfz61_0 := blk_frozen BK204.out 0
                  have hfz61_1 := blk_frozen BK204.out 1
                  have hfz61_2 := blk_frozen BK204.out 2
                  try go_wp2
                  have n0_ : Aside0 (Kd.R (Kd.int .i64) 3 ((((((wc.setCell ⟨gb204, 0, none⟩ (.bool a1_0)).setCell ⟨gb204, 1, none⟩ (.slice Ao18 l1_1.length co18)).setCell ⟨gb204, 2, none⟩ (.int .i64 a1_2)).setCell ⟨gb205, 0, none⟩ (.bool a0_0)).setCell ⟨gb205, 1, none⟩ (.slice A0_1 l0_1.length c0_1)).setCell ⟨gb205, 2, none⟩ (.int .i64 a0_2)) w0.heap.size (fun k_ => (P1_1_ k_ ∨ w.heap.size ≤ k_)) (.slice Ao18 l1_1.length co18) l1_1) := ⟨by (with_reducible repeat (first | apply Kd.R_alloc | apply Kd.R_drewN | apply Kd.R_drew)); exact Kd.R_mono (Kd.R_far (p := ⟨gb205, 2, none⟩) (Kd.R_far (p := ⟨gb205, 1, none⟩) (Kd.R_far (p := ⟨gb205, 0, none⟩) (Kd.R_far (p := ⟨gb204, 2, none⟩) (Kd.R_far (p := ⟨gb204, 1, none⟩) (Kd.R_far (p := ⟨gb204, 0, none⟩) (Kd.R_types (Kd.R_types HO_206001.out BK204.out (by decide)) BK205.out (by decide)) (fun _ hk => hk.1.2) (.bool a1_0)) (fun _ hk => hk.1.2) (.slice Ao18 l1_1.length co18)) (fun _ hk => hk.1.2) (.int .i64 a1_2)) (fun _ hk => hk.2) (.bool a0_0)) (fun _ hk => hk.2) (.slice A0_1 l0_1.length c0_1)) (fun _ hk => hk.2) (.int .i64 a0_2)) (fun _ hk => hk.1.1)⟩
                  have n1_ : Aside0 (((((((wc.setCell ⟨gb204, 0, none⟩ (.bool a1_0)).setCell ⟨gb204, 1, none⟩ (.slice Ao18 l1_1.length co18)).setCell ⟨gb204, 2, none⟩ (.int .i64 a1_2)).setCell ⟨gb205, 0, none⟩ (.bool a0_0)).setCell ⟨gb205, 1, none⟩ (.slice A0_1 l0_1.length c0_1)).setCell ⟨gb205, 2, none⟩ (.int .i64 a0_2)).heap[gb204]? = some (.cells #[.bool a1_0, .slice Ao18 l1_1.length co18, .int .i64 a1_2] 32 (0, 0))) := ⟨by (with_reducible repeat (first | refine blk_drewN ?_ _ | refine blk_drew ?_ | refine blk_alloc ?_ _)); refine blk_far ?_ NB204_205.out _; (with_reducible repeat (first | refine blk_drewN ?_ _ | refine blk_drew ?_ | refine blk_alloc ?_ _)); refine blk_far ?_ NB204_205.out _; (with_reducible repeat (first | refine blk_drewN ?_ _ | refine blk_drew ?_ | refine blk_alloc ?_ _)); refine blk_far ?_ NB204_205.out _; (with_reducible repeat (first | refine blk_drewN ?_ _ | refine blk_drew ?_ | refine blk_alloc ?_ _)); refine blk_put (cs := #[.bool a1_0, .slice Ao18 l1_1.length co18, .int .i64 a0_2]) ?_ 2 _ rfl; (with_reducible repeat (first | refine blk_drewN ?_ _ | refine blk_drew ?_ | refine blk_alloc ?_ _)); refine blk_put (cs := #[.bool a1_0, .slice A0_1 l0_1.length c0_1, .int .i64 a0_2]) ?_ 1 _ rfl; (with_reducible repeat (first | refine blk_drewN ?_ _ | refine blk_drew ?_ | refine blk_alloc ?_ _)); refine blk_put (cs := #[.bool a0_0, .slice A0_1 l0_1.length c0_1, .int .i64 a0_2]) ?_ 0 _ rfl; (with_reducible repeat (first | refine blk_drewN ?_ _ | refine blk_drew ?_ | refine blk_alloc ?_ _)); exact BK204.out⟩
                  have n2_ : Aside0 (((((((wc.setCell ⟨gb204, 0, none⟩ (.bool a1_0)).setCell ⟨gb204, 1, none⟩ (.slice Ao18 l1_1.length co18)).setCell ⟨gb204, 2, none⟩ (.int .i64 a1_2)).setCell ⟨gb205, 0, none⟩ (.bool a0_0)).setCell ⟨gb205, 1, none⟩ (.slice A0_1 l0_1.length c0_1)).setCell ⟨gb205, 2, none⟩ (.int .i64 a0_2)).heap[gb205]? = some (.cells #[.bool a0_0, .slice A0_1 l0_1.length c0_1, .int .i64 a0_2] 32 (0, 0))) := ⟨by (with_reducible repeat (first | refine blk_drewN ?_ _ | refine blk_drew ?_ | refine blk_alloc ?_ _)); refine blk_put (cs := #[.bool a0_0, .slice A0_1 l0_1.length c0_1, .int .i64 a1_2]) ?_ 2 _ rfl; (with_reducible repeat (first | refine blk_drewN ?_ _ | refine blk_drew ?_ | refine blk_alloc ?_ _)); refine blk_put (cs := #[.bool a0_0, .slice Ao18 l1_1.length co18, .int .i64 a1_2]) ?_ 1 _ rfl; (with_reducible repeat (first | refine blk_drewN ?_ _ | refine blk_drew ?_ | refine blk_alloc ?_ _)); refine blk_put (cs := #[.bool a1_0, .slice Ao18 l1_1.length co18, .int .i64 a1_2]) ?_ 0 _ rfl; (with_reducible repeat (first | refine blk_drewN ?_ _ | refine blk_drew ?_ | refine blk_alloc ?_ _)); refine blk_far ?_ NB205_204.out _; (with_reducible repeat (first | refine blk_drewN ?_ _ | refine blk_drew ?_ | refine blk_alloc ?_ _)); refine blk_far ?_ NB205_204.out _; (with_reducible repeat (first | refine blk_drewN ?_ _ | refine blk_drew ?_ | refine blk_alloc ?_ _)); refine blk_far ?_ NB205_204.out _; (with_reducible repeat (first | refine blk_drewN ?_ _ | refine blk_drew ?_ | refine blk_alloc ?_ _)); exact BK205.out⟩
                  have n3_ : Aside0 (((((((wc.setCell ⟨gb204, 0, none⟩ (.bool a1_0)).setCell ⟨gb204, 1, none⟩ (.slice Ao18 l1_1.length co18)).setCell ⟨gb204, 2, none⟩ (.int .i64 a1_2)).setCell ⟨gb205, 0, none⟩ (.bool a0_0)).setCell ⟨gb205, 1, none⟩ (.slice A0_1 l0_1.length c0_1)).setCell ⟨gb205, 2, none⟩ (.int .i64 a0_2)).heap[gb206]? = some (.cells #[.bool false, .slice none 0 0, .int .i64 0] 32 (0, 0))) := ⟨by (with_reducible repeat (first | refine blk_drewN ?_ _ | refine blk_drew ?_ | refine blk_alloc ?_ _)); refine blk_far ?_ NB206_205.out _; (with_reducible repeat (first | refine blk_drewN ?_ _ | refine blk_drew ?_ | refine blk_alloc ?_ _)); refine blk_far ?_ NB206_205.out _; (with_reducible repeat (first | refine blk_drewN ?_ _ | refine blk_drew ?_ | refine blk_alloc ?_ _)); refine blk_far ?_ NB206_205.out _; (with_reducible repeat (first | refine blk_drewN ?_ _ | refine blk_drew ?_ | refine blk_alloc ?_ _)); refine blk_far ?_ NB206_204.out _; (with_reducible repeat (first | refine blk_drewN ?_ _ | refine blk_drew ?_ | refine blk_alloc ?_ _)); refine blk_far ?_ NB206_204.out _; (with_reducible repeat (first | refine blk_drewN ?_ _ | refine blk_drew ?_ | refine blk_alloc ?_ _)); refine blk_far ?_ NB206_204.out _; (with_reducible repeat (first | refine blk_drewN ?_ _ | refine blk_drew ?_ | refine blk_alloc ?_ _)); exact BK206.out⟩
                  have n4_ : Aside0 (Kept w ((((((wc.setCell ⟨gb204, 0, none⟩ (.bool a1_0)).setCell ⟨gb204, 1, none⟩ (.slice Ao18 l1_1.length co18)).setCell ⟨gb204, 2, none⟩ (.int .i64 a1_2)).setCell ⟨gb205, 0, none⟩ (.bool a0_0)).setCell ⟨gb205, 1, none⟩ (.slice A0_1 l0_1.length c0_1)).setCell ⟨gb205, 2, none⟩ (.int .i64 a0_2)) (fun k_ => P1_1_ k_)) := ⟨by repeat (first | (with_reducible first | exact HK.out | apply Kept.alloc | apply Kept.drewN | apply Kept.drew | refine Kept.setCell ?_ (.inr GW204.out) _ | refine Kept.setCell ?_ (.inr GW205.out) _ | refine Kept.setCell ?_ (.inr GW206.out) _) | exact HK.out)⟩
                  have n5_ : Aside0 (Below w0.heap.size w0 ((((((wc.setCell ⟨gb204, 0, none⟩ (.bool a1_0)).setCell ⟨gb204, 1, none⟩ (.slice Ao18 l1_1.length co18)).setCell ⟨gb204, 2, none⟩ (.int .i64 a1_2)).setCell ⟨gb205, 0, none⟩ (.bool a0_0)).setCell ⟨gb205, 1, none⟩ (.slice A0_1 l0_1.length c0_1)).setCell ⟨gb205, 2, none⟩ (.int .i64 a0_2))) := ⟨by repeat (first | (with_reducible first | exact HB.out | apply below_alloc | apply pw_below_drewN | apply below_drew1 | refine below_set ?_ GE204.out | refine below_set ?_ GE205.out | refine below_set ?_ GE206.out) | exact HB.out)⟩
                  (try clear HO_206001)
                  (try clear BK204)
                  (try clear BK205)
                  (try clear BK206)
                  (try clear HK)
                  (try clear HB)
                  generalize ((((((wc.setCell ⟨gb204, 0, none⟩ (.bool a1_0)).setCell ⟨gb204, 1, none⟩ (.slice Ao18 l1_1.length co18)).setCell ⟨gb204, 2, none⟩ (.int .i64 a1_2)).setCell ⟨gb205, 0, none⟩ (.bool a0_0)).setCell ⟨gb205, 1, none⟩ (.slice A0_1 l0_1.length c0_1)).setCell ⟨gb205, 2, none⟩ (.int .i64 a0_2)) = w62 at n0_ n1_ n2_ n3_ n4_ n5_ ⊢
                  have HO_206001 := n0_
                  have BK204 := n1_
                  have BK205 := n2_
                  have BK206 := n3_
                  have HK := n4_
                  have HB := n5_
                  clear n0_ n1_ n2_ n3_ n4_ n5_
                  have n0_ := Aside0.mk (Kd.R_drew HO_206001.out)
                  have n1_ := Aside0.mk (blk_drew BK204.out)
                  have n2_ := Aside0.mk (blk_drew BK205.out)
                  have n3_ := Aside0.mk (blk_drew BK206.out)
                  have n4_ := Aside0.mk (Kept.drew HK.out)
                  have n5_ := Aside0.mk (below_drew1 HB.out)
                  clear HO_206001
                  clear BK204
                  clear BK205
                  clear BK206
                  clear HK
                  clear HB
                  have HO_206001 := n0_
                  have BK204 := n1_
                  have BK205 := n2_
                  have BK206 := n3_
                  have HK := n4_
                  have HB := n5_
                  clear n0_ n1_ n2_ n3_ n4_ n5_
                  refine start_ (n := 17) (S := fun w' => w'.cell? ⟨gb204, 0, none⟩ = some (.bool a1_0) ∧ w'.cell? ⟨gb204, 1, none⟩ = some (.slice Ao18 l1_1.length co18) ∧ w'.cell? ⟨gb204, 2, none⟩ = some (.int .i64 a1_2) ∧ w'.cell? ⟨gb205, 0, none⟩ = some (.bool a0_0) ∧ w'.cell? ⟨gb205, 1, none⟩ = some (.slice A0_1 l0_1.length c0_1) ∧ w'.cell? ⟨gb205, 2, none⟩ = some (.int .i64 a0_2)) (ds := []) #[false, false, false, false, false, false, false, false, false, false, false, false, false, false, false, false, false] (by kernel_rfl) rfl rfl ⟨(blk_cell BK204.out 0).trans rfl, (blk_cell BK204.out 1).trans rfl, (blk_cell BK204.out 2).trans rfl, (blk_cell BK205.out 0).trans rfl, (blk_cell BK205.out 1).trans rfl, (blk_cell BK205.out 2).trans rfl⟩ (fun hHeld => ?_); refine with_tabW spec_DecimalAdd.tab10 spec_DecimalAdd.bits10 (fun HT_ HW_ => ?_)
                  generalize w62.drew = w63 at HO_206001 BK204 BK205 BK206 HK HB hHeld ⊢
                  refine pure_ (i := 0) (N := some 48) (v := ?_) (a' := ?_) #[true, false, false, false, false, false, false, false, false, false, false, false, false, false, false, false, false] rfl rfl (any_of HT_.out (by kernel_rfl)) (fun _ _ _ h => h) (Or.inl ⟨by rfl, ?_⟩) ?_ ?_
                  rotate_left
                  · intro w'
                    go_simp
                    with_reducible rfl
                  rotate_left
                  · simp only [Act.put, List.setIfInBounds_toArray, List.set_cons_zero, List.set_cons_succ, i64_w, i32_w]
                    rfl
                  refine pure_ (i := 3) (N := some 51) (v := ?_) (a' := ?_) #[true, false, false, true, false, false, false, false, false, false, false, false, false, false, false, false, false] rfl rfl (any_of HT_.out (by kernel_rfl)) (fun _ _ _ h => h) (Or.inl ⟨by rfl, ?_⟩) ?_ ?_
                  rotate_left
                  · intro w'
                    go_simp
                    with_reducible rfl
                  rotate_left
                  · simp only [Act.put, List.setIfInBounds_toArray, List.set_cons_zero, List.set_cons_succ, i64_w, i32_w]
                    rfl
                  refine pure_ (i := 6) (N := some 54) (v := ?_) (a' := ?_) #[true, false, false, true, false, false, true, false, false, false, false, false, false, false, false, false, false] rfl rfl (any_of HT_.out (by kernel_rfl)) (fun _ _ _ h => h) (Or.inl ⟨by rfl, ?_⟩) ?_ ?_
                  rotate_left
                  · intro w'
                    go_simp
                    with_reducible rfl
                  rotate_left
                  · simp only [Act.put, List.setIfInBounds_toArray, List.set_cons_zero, List.set_cons_succ, i64_w, i32_w]
                    rfl
                  refine pure_ (i := 8) (N := some 56) (v := ?_) (a' := ?_) #[true, false, false, true, false, false, true, false, true, false, false, false, false, false, false, false, false] rfl rfl (any_of HT_.out (by kernel_rfl)) (fun _ _ _ h => h) (Or.inl ⟨by rfl, ?_⟩) ?_ ?_
                  rotate_left
                  · intro w'
                    go_simp
                    with_reducible rfl
                  rotate_left
                  · simp only [Act.put, List.setIfInBounds_toArray, List.set_cons_zero, List.set_cons_succ, i64_w, i32_w]
                    rfl
                  refine pure_ (i := 10) (N := some 58) (v := ?_) (a' := ?_) #[true, false, false, true, false, false, true, false, true, false, true, false, false, false, false, false, false] rfl rfl (any_of HT_.out (by kernel_rfl)) (fun _ _ _ h => h) (Or.inl ⟨by rfl, ?_⟩) ?_ ?_
                  rotate_left
                  · intro w'
                    go_simp
                    with_reducible rfl
                  rotate_left
                  · simp only [Act.put, List.setIfInBounds_toArray, List.set_cons_zero, List.set_cons_succ, i64_w, i32_w]
                    rfl
                  refine pure_ (i := 13) (N := some 61) (v := ?_) (a' := ?_) #[true, false, false, true, false, false, true, false, true, false, true, false, false, true, false, false, false] rfl rfl (any_of HT_.out (by kernel_rfl)) (fun _ _ _ h => h) (Or.inl ⟨by rfl, ?_⟩) ?_ ?_
                  rotate_left
                  · intro w'
                    go_simp
                    with_reducible rfl
                  rotate_left
                  · simp only [Act.put, List.setIfInBounds_toArray, List.set_cons_zero, List.set_cons_succ, i64_w, i32_w]
                    rfl
                  refine take_ (i := 1) (N := some 49) (v := ?_) (a' := ?_) #[true, true, false, true, false, false, true, false, true, false, true, false, false, true, false, false, false] rfl rfl (take_ofW HT_.out HW_.out (by kernel_rfl)) (fun _ _ _ h => h) (Or.inl ⟨by rfl, ?_⟩) hHeld ?_ ?_
                  rotate_left
                  · rintro w' ⟨s0, s1, s2, s3, s4, s5⟩
                    go_simp
                    with_reducible rfl
                  rotate_left
                  · simp only [Act.put, List.setIfInBounds_toArray, List.set_cons_zero, List.set_cons_succ, i64_w, i32_w]
                    rfl
                  refine take_ (i := 2) (N := some 50) (v := ?_) (a' := ?_) #[true, true, true, true, false, false, true, false, true, false, true, false, false, true, false, false, false] rfl rfl (take_ofW HT_.out HW_.out (by kernel_rfl)) (fun _ _ _ h => h) (Or.inl ⟨by rfl, ?_⟩) hHeld ?_ ?_
                  rotate_left
                  · rintro w' ⟨s0, s1, s2, s3, s4, s5⟩
                    go_simp
                    with_reducible rfl
                  rotate_left
                  · simp only [Act.put, List.setIfInBounds_toArray, List.set_cons_zero, List.set_cons_succ, i64_w, i32_w]
                    rfl
                  refine take_ (i := 5) (N := some 53) (v := ?_) (a' := ?_) #[true, true, true, true, false, true, true, false, true, false, true, false, false, true, false, false, false] rfl rfl (take_ofW HT_.out HW_.out (by kernel_rfl)) (fun _ _ _ h => h) (Or.inl ⟨by rfl, ?_⟩) hHeld ?_ ?_
                  rotate_left
                  · rintro w' ⟨s0, s1, s2, s3, s4, s5⟩
                    go_simp
                    with_reducible rfl
                  rotate_left
                  · simp only [Act.put, List.setIfInBounds_toArray, List.set_cons_zero, List.set_cons_succ, i64_w, i32_w]
                    rfl
                  refine take_ (i := 9) (N := some 57) (v := ?_) (a' := ?_) #[true, true, true, true, false, true, true, false, true, true, true, false, false, true, false, false, false] rfl rfl (take_ofW HT_.out HW_.out (by kernel_rfl)) (fun _ _ _ h => h) (Or.inl ⟨by rfl, ?_⟩) hHeld ?_ ?_
                  rotate_left
                  · rintro w' ⟨s0, s1, s2, s3, s4, s5⟩
                    go_simp
                    with_reducible rfl
                  rotate_left
                  · simp only [Act.put, List.setIfInBounds_toArray, List.set_cons_zero, List.set_cons_succ, i64_w, i32_w]
                    rfl
                  refine take_ (i := 11) (N := some 59) (v := ?_) (a' := ?_) #[true, true, true, true, false, true, true, false, true, true, true, true, false, true, false, false, false] rfl rfl (take_ofW HT_.out HW_.out (by kernel_rfl)) (fun _ _ _ h => h) (Or.inl ⟨by rfl, ?_⟩) hHeld ?_ ?_
                  rotate_left
                  · rintro w' ⟨s0, s1, s2, s3, s4, s5⟩
                    go_simp
                    with_reducible rfl
                  rotate_left
                  · simp only [Act.put, List.setIfInBounds_toArray, List.set_cons_zero, List.set_cons_succ, i64_w, i32_w]
                    rfl
                  refine pure_ (i := 12) (N := some 60) (v := ?_) (a' := ?_) #[true, true, true, true, false, true, true, false, true, true, true, true, true, true, false, false, false] rfl rfl (any_of HT_.out (by kernel_rfl)) (fun _ _ _ h => h) (Or.inl ⟨by rfl, ?_⟩) ?_ ?_
                  rotate_left
                  · intro w'
                    go_simp
                    with_reducible rfl
                  rotate_left
                  · simp only [Act.put, List.setIfInBounds_toArray, List.set_cons_zero, List.set_cons_succ, i64_w, i32_w]
                    rfl
                  refine one_ (i := 4) (N := some 52) #[true, true, true, true, true, true, true, false, true, true, true, true, true, true, false, false, false] rfl rfl (one_of HT_.out (by kernel_rfl)) (by decide) (fun K hK => ?_)
                  refine goes_ Try.func25 (by kernel_rfl) rfl #[.agg #[.bool a1_0, .slice Ao18 l1_1.length co18, .int .i64 a1_2], .int .i64 ji15] (by rfl) rfl rfl (by (try simp only [List.map_toArray, List.map_cons, List.map_nil]); first | done | (simp only [hji15]; rfl) | rfl | (simp only [List.length_drop, List.length_take]; rfl)) ?_
                  with_reducible refine (spec_wide.calls kj38 a1_0 _ _ l1_1 a1_2 ji15 t208 _ ?side1 ?side2 A54.out).mono ?_
                  (case side1 => repeat (first | exact (Kd.R_reads' HO_206001.out).2.2 | (with_reducible refine Kd.C_alloc ?_ _) | (with_reducible refine Kd.C_drewN ?_ _) | (with_reducible refine Kd.C_drew ?_)))
                  (case side2 => exact (Kd.R_reads' HO_206001.out).2.1)
                  rintro e w64 ⟨v209, rfl, ho0, hb⟩
                  refine ⟨_, rfl, ?_⟩
                  have n0_ := Aside0.mk (Kd.R_elder' (by (with_reducible repeat (first | apply Kd.R_alloc | apply Kd.R_drewN | apply Kd.R_drew)); exact HO_206001.out) (Kd.R_base ho0) hb)
                  have n1_ := Aside0.mk (Kd.R_lower (Kd.R_new' (Kd.R_newM (M := fun k_ => (P1_1_ k_ ∨ w.heap.size ≤ k_)) ho0 (by first | exact HK.out.1 | exact (show Kept w _ (fun k_ => P1_1_ k_) from by repeat (first | (with_reducible first | exact HK.out | apply Kept.alloc | apply Kept.drewN | apply Kept.drew | refine Kept.setCell ?_ (.inr GW204.out) _ | refine Kept.setCell ?_ (.inr GW205.out) _ | refine Kept.setCell ?_ (.inr GW206.out) _) | exact HK.out)).1) (fun k_ h_ => .inr h_)) (Kd.R_lt (by (with_reducible repeat (first | apply Kd.R_alloc | apply Kd.R_drewN | apply Kd.R_drew)); exact HO_206001.out))) (below_size (by repeat (first | (with_reducible first | exact HB.out | apply below_alloc | apply pw_below_drewN | apply below_drew1 | refine below_set ?_ GE204.out | refine below_set ?_ GE205.out | refine below_set ?_ GE206.out) | exact HB.out))))
                  have n2_ := Aside0.mk (blk_below (g := gb204) (o := .cells #[.bool a1_0, .slice Ao18 l1_1.length co18, .int .i64 a1_2] 32 (0, 0)) (by (with_reducible repeat (first | refine blk_drewN ?_ _ | refine blk_drew ?_ | refine blk_alloc ?_ _)); exact BK204.out) hb)
                  have n3_ := Aside0.mk (blk_below (g := gb205) (o := .cells #[.bool a0_0, .slice A0_1 l0_1.length c0_1, .int .i64 a0_2] 32 (0, 0)) (by (with_reducible repeat (first | refine blk_drewN ?_ _ | refine blk_drew ?_ | refine blk_alloc ?_ _)); exact BK205.out) hb)
                  have n4_ := Aside0.mk (blk_below (g := gb206) (o := .cells #[.bool false, .slice none 0 0, .int .i64 0] 32 (0, 0)) (by (with_reducible repeat (first | refine blk_drewN ?_ _ | refine blk_drew ?_ | refine blk_alloc ?_ _)); exact BK206.out) hb)
                  have n5_ := Aside0.mk (Kept.below (S := (fun k_ => P1_1_ k_)) (by repeat (first | (with_reducible first | exact HK.out | apply Kept.alloc | apply Kept.drewN | apply Kept.drew | refine Kept.setCell ?_ (.inr GW204.out) _ | refine Kept.setCell ?_ (.inr GW205.out) _ | refine Kept.setCell ?_ (.inr GW206.out) _) | exact HK.out)) hb)
                  have n6_ := Aside0.mk (below_step (by repeat (first | (with_reducible first | exact HB.out | apply below_alloc | apply pw_below_drewN | apply below_drew1 | refine below_set ?_ GE204.out | refine below_set ?_ GE205.out | refine below_set ?_ GE206.out) | exact HB.out)) hb)
                  clear HO_206001
                  clear BK204
                  clear BK205
                  clear BK206
                  clear HK
                  clear HB
                  have HO_206001 := n0_
                  have HO210 := n1_
                  have BK204 := n2_
                  have BK205 := n3_
                  have BK206 := n4_
                  have HK := n5_
                  have HB := n6_
                  clear n0_ n1_ n2_ n3_ n4_ n5_ n6_
                  (try clear hb)
                  (try clear hb2)
                  (try clear hk)
                  (try clear hi)
                  (try clear ho0)
                  refine hK.out _ _ ⟨(blk_cell BK204.out 0).trans rfl, (blk_cell BK204.out 1).trans rfl, (blk_cell BK204.out 2).trans rfl, (blk_cell BK205.out 0).trans rfl, (blk_cell BK205.out 1).trans rfl, (blk_cell BK205.out 2).trans rfl⟩ (fun hHeld => ?_)
                  clear hK K
                  refine norm_ (a' := ?_) ?_ ?_
                  rotate_left
                  · show Act.put _ (some 52) _ = _
                    simp only [Act.put, List.setIfInBounds_toArray, List.set_cons_zero, List.set_cons_succ, i64_w, i32_w]
                    rfl
                  refine one_ (i := 7) (N := some 55) #[true, true, true, true, true, true, true, true, true, true, true, true, true, true, false, false, false] rfl rfl (one_of HT_.out (by kernel_rfl)) (by decide) (fun K hK => ?_)
                  refine goes_ Try.func25 (by kernel_rfl) rfl #[.agg #[.bool a0_0, .slice A0_1 l0_1.length c0_1, .int .i64 a0_2], .int .i64 ji15] (by rfl) rfl rfl (by (try simp only [List.map_toArray, List.map_cons, List.map_nil]); first | done | (simp only [hji15]; rfl) | rfl | (simp only [List.length_drop, List.length_take]; rfl)) ?_
                  with_reducible refine (spec_wide.calls kj38 a0_0 _ _ l0_1 a0_2 ji15 t211 _ ?side1 ?side2 A55.out).mono ?_
                  (case side1 => exact Kd.C_kept_now HR0_1.out (by repeat (first | (with_reducible first | exact HK.out | apply Kept.alloc | apply Kept.drewN | apply Kept.drew | refine Kept.setCell ?_ (.inr GW204.out) _ | refine Kept.setCell ?_ (.inr GW205.out) _ | refine Kept.setCell ?_ (.inr GW206.out) _) | exact HK.out)))
                  (case side2 => exact HC0_1.out)
                  rintro e w65 ⟨v212, rfl, ho0, hb⟩
                  refine ⟨_, rfl, ?_⟩
                  have n0_ := Aside0.mk (Kd.R_elder' (by (with_reducible repeat (first | apply Kd.R_alloc | apply Kd.R_drewN | apply Kd.R_drew)); exact HO_206001.out) (Kd.R_base ho0) hb)
                  have n1_ := Aside0.mk (Kd.R_elder' (by (with_reducible repeat (first | apply Kd.R_alloc | apply Kd.R_drewN | apply Kd.R_drew)); exact HO210.out) (Kd.R_base ho0) hb)
                  have n2_ := Aside0.mk (Kd.R_lower (Kd.R_new' (Kd.R_new' (Kd.R_newM (M := fun k_ => (P1_1_ k_ ∨ w.heap.size ≤ k_)) ho0 (by first | exact HK.out.1 | exact (show Kept w _ (fun k_ => P1_1_ k_) from by repeat (first | (with_reducible first | exact HK.out | apply Kept.alloc | apply Kept.drewN | apply Kept.drew | refine Kept.setCell ?_ (.inr GW204.out) _ | refine Kept.setCell ?_ (.inr GW205.out) _ | refine Kept.setCell ?_ (.inr GW206.out) _) | exact HK.out)).1) (fun k_ h_ => .inr h_)) (Kd.R_lt (by (with_reducible repeat (first | apply Kd.R_alloc | apply Kd.R_drewN | apply Kd.R_drew)); exact HO_206001.out))) (Kd.R_lt (by (with_reducible repeat (first | apply Kd.R_alloc | apply Kd.R_drewN | apply Kd.R_drew)); exact HO210.out))) (below_size (by repeat (first | (with_reducible first | exact HB.out | apply below_alloc | apply pw_below_drewN | apply below_drew1 | refine below_set ?_ GE204.out | refine below_set ?_ GE205.out | refine below_set ?_ GE206.out) | exact HB.out))))
                  have n3_ := Aside0.mk (blk_below (g := gb204) (o := .cells #[.bool a1_0, .slice Ao18 l1_1.length co18, .int .i64 a1_2] 32 (0, 0)) (by (with_reducible repeat (first | refine blk_drewN ?_ _ | refine blk_drew ?_ | refine blk_alloc ?_ _)); exact BK204.out) hb)
                  have n4_ := Aside0.mk (blk_below (g := gb205) (o := .cells #[.bool a0_0, .slice A0_1 l0_1.length c0_1, .int .i64 a0_2] 32 (0, 0)) (by (with_reducible repeat (first | refine blk_drewN ?_ _ | refine blk_drew ?_ | refine blk_alloc ?_ _)); exact BK205.out) hb)
                  have n5_ := Aside0.mk (blk_below (g := gb206) (o := .cells #[.bool false, .slice none 0 0, .int .i64 0] 32 (0, 0)) (by (with_reducible repeat (first | refine blk_drewN ?_ _ | refine blk_drew ?_ | refine blk_alloc ?_ _)); exact BK206.out) hb)
                  have n6_ := Aside0.mk (Kept.below (S := (fun k_ => P1_1_ k_)) (by repeat (first | (with_reducible first | exact HK.out | apply Kept.alloc | apply Kept.drewN | apply Kept.drew | refine Kept.setCell ?_ (.inr GW204.out) _ | refine Kept.setCell ?_ (.inr GW205.out) _ | refine Kept.setCell ?_ (.inr GW206.out) _) | exact HK.out)) hb)
                  have n7_ := Aside0.mk (below_step (by repeat (first | (with_reducible first | exact HB.out | apply below_alloc | apply pw_below_drewN | apply below_drew1 | refine below_set ?_ GE204.out | refine below_set ?_ GE205.out | refine below_set ?_ GE206.out) | exact HB.out)) hb)
                  clear HO_206001
                  clear HO210
                  clear BK204
                  clear BK205
                  clear BK206
                  clear HK
                  clear HB
                  have HO_206001 := n0_
                  have HO210 := n1_
                  have HO213 := n2_
                  have BK204 := n3_
                  have BK205 := n4_
                  have BK206 := n5_
                  have HK := n6_
                  have HB := n7_
                  clear n0_ n1_ n2_ n3_ n4_ n5_ n6_ n7_
                  (try clear hb)
                  (try clear hb2)
                  (try clear hk)
                  (try clear hi)
                  (try clear ho0)
                  obtain ⟨Ao66, co66, eo66⟩ := Kd.R_slice HO210.out
                  (first | subst eo66 | (injection eo66 with f1_ f2_ f3_; have f4_ := f1_.symm; have f5_ := f3_.symm; clear f1_ f2_ f3_; subst f4_; subst f5_))
                  obtain ⟨Ao67, co67, eo67⟩ := Kd.R_slice HO213.out
                  (first | subst eo67 | (injection eo67 with f1_ f2_ f3_; have f4_ := f1_.symm; have f5_ := f3_.symm; clear f1_ f2_ f3_; subst f4_; subst f5_))
                  refine hK.out _ _ ⟨(blk_cell BK204.out 0).trans rfl, (blk_cell BK204.out 1).trans rfl, (blk_cell BK204.out 2).trans rfl, (blk_cell BK205.out 0).trans rfl, (blk_cell BK205.out 1).trans rfl, (blk_cell BK205.out 2).trans rfl⟩ (fun hHeld => ?_)
                  clear hK K
                  refine norm_ (a' := ?_) ?_ ?_
                  rotate_left
                  · show Act.put _ (some 55) _ = _
                    simp only [Act.put, List.setIfInBounds_toArray, List.set_cons_zero, List.set_cons_succ, i64_w, i32_w]
                    rfl
                  refine one_ (i := 14) (N := some 62) #[true, true, true, true, true, true, true, true, true, true, true, true, true, true, true, false, false] rfl rfl (one_of HT_.out (by kernel_rfl)) (by decide) (fun K hK => ?_)
                  refine goes_ Try.func24 (by kernel_rfl) rfl #[.bool a1_0, .slice Ao66 t208.length co66, .slice Ao67 t211.length co67, .bool (a1_0 != a0_0), .int .i64 ji15] (by rfl) rfl rfl (by (try simp only [List.map_toArray, List.map_cons, List.map_nil]); first | done | (simp only [hji15]; rfl) | rfl | (simp only [List.length_drop, List.length_take]; rfl)) ?_
                  with_reducible refine (spec_sum.calls kj38 a1_0 _ _ t208 _ _ t211 (a1_0 != a0_0) ji15 t214 t215 t218 _ ?side1 ?side2 ?side3 ?side4 A56.out).mono ?_
                  (case side1 => repeat (first | exact (Kd.R_reads' HO210.out).2.2 | (with_reducible refine Kd.C_alloc ?_ _) | (with_reducible refine Kd.C_drewN ?_ _) | (with_reducible refine Kd.C_drew ?_)))
                  (case side2 => exact (Kd.R_reads' HO210.out).2.1)
                  (case side3 => repeat (first | exact (Kd.R_reads' HO213.out).2.2 | (with_reducible refine Kd.C_alloc ?_ _) | (with_reducible refine Kd.C_drewN ?_ _) | (with_reducible refine Kd.C_drew ?_)))
                  (case side4 => exact (Kd.R_reads' HO213.out).2.1)
                  rintro e w68 ⟨v216, rfl, ho0, hb⟩
                  refine ⟨_, rfl, ?_⟩
                  have n0_ := Aside0.mk (Kd.R_elder' (by (with_reducible repeat (first | apply Kd.R_alloc | apply Kd.R_drewN | apply Kd.R_drew)); exact HO_206001.out) (Kd.R_base ho0) hb)
                  have n1_ := Aside0.mk (Kd.R_elder' (by (with_reducible repeat (first | apply Kd.R_alloc | apply Kd.R_drewN | apply Kd.R_drew)); exact HO210.out) (Kd.R_base ho0) hb)
                  have n2_ := Aside0.mk (Kd.R_elder' (by (with_reducible repeat (first | apply Kd.R_alloc | apply Kd.R_drewN | apply Kd.R_drew)); exact HO213.out) (Kd.R_base ho0) hb)
                  have n3_ := Aside0.mk (Kd.R_lower (Kd.R_new' (Kd.R_new' (Kd.R_new' (Kd.R_newM (M := fun k_ => (P1_1_ k_ ∨ w.heap.size ≤ k_)) ho0 (by first | exact HK.out.1 | exact (show Kept w _ (fun k_ => P1_1_ k_) from by repeat (first | (with_reducible first | exact HK.out | apply Kept.alloc | apply Kept.drewN | apply Kept.drew | refine Kept.setCell ?_ (.inr GW204.out) _ | refine Kept.setCell ?_ (.inr GW205.out) _ | refine Kept.setCell ?_ (.inr GW206.out) _) | exact HK.out)).1) (fun k_ h_ => .inr h_)) (Kd.R_lt (by (with_reducible repeat (first | apply Kd.R_alloc | apply Kd.R_drewN | apply Kd.R_drew)); exact HO_206001.out))) (Kd.R_lt (by (with_reducible repeat (first | apply Kd.R_alloc | apply Kd.R_drewN | apply Kd.R_drew)); exact HO210.out))) (Kd.R_lt (by (with_reducible repeat (first | apply Kd.R_alloc | apply Kd.R_drewN | apply Kd.R_drew)); exact HO213.out))) (below_size (by repeat (first | (with_reducible first | exact HB.out | apply below_alloc | apply pw_below_drewN | apply below_drew1 | refine below_set ?_ GE204.out | refine below_set ?_ GE205.out | refine below_set ?_ GE206.out) | exact HB.out))))
                  have n4_ := Aside0.mk (blk_below (g := gb204) (o := .cells #[.bool a1_0, .slice Ao18 l1_1.length co18, .int .i64 a1_2] 32 (0, 0)) (by (with_reducible repeat (first | refine blk_drewN ?_ _ | refine blk_drew ?_ | refine blk_alloc ?_ _)); exact BK204.out) hb)
                  have n5_ := Aside0.mk (blk_below (g := gb205) (o := .cells #[.bool a0_0, .slice A0_1 l0_1.length c0_1, .int .i64 a0_2] 32 (0, 0)) (by (with_reducible repeat (first | refine blk_drewN ?_ _ | refine blk_drew ?_ | refine blk_alloc ?_ _)); exact BK205.out) hb)
                  have n6_ := Aside0.mk (blk_below (g := gb206) (o := .cells #[.bool false, .slice none 0 0, .int .i64 0] 32 (0, 0)) (by (with_reducible repeat (first | refine blk_drewN ?_ _ | refine blk_drew ?_ | refine blk_alloc ?_ _)); exact BK206.out) hb)
                  have n7_ := Aside0.mk (Kept.below (S := (fun k_ => P1_1_ k_)) (by repeat (first | (with_reducible first | exact HK.out | apply Kept.alloc | apply Kept.drewN | apply Kept.drew | refine Kept.setCell ?_ (.inr GW204.out) _ | refine Kept.setCell ?_ (.inr GW205.out) _ | refine Kept.setCell ?_ (.inr GW206.out) _) | exact HK.out)) hb)
                  have n8_ := Aside0.mk (below_step (by repeat (first | (with_reducible first | exact HB.out | apply below_alloc | apply pw_below_drewN | apply below_drew1 | refine below_set ?_ GE204.out | refine below_set ?_ GE205.out | refine below_set ?_ GE206.out) | exact HB.out)) hb)
                  clear HO_206001
                  clear HO210
                  clear HO213
                  clear BK204
                  clear BK205
                  clear BK206
                  clear HK
                  clear HB
                  have HO_206001 := n0_
                  have HO210 := n1_
                  have HO213 := n2_
                  have HO217 := n3_
                  have BK204 := n4_
                  have BK205 := n5_
                  have BK206 := n6_
                  have HK := n7_
                  have HB := n8_
                  clear n0_ n1_ n2_ n3_ n4_ n5_ n6_ n7_ n8_
                  (try clear hb)
                  (try clear hb2)
                  (try clear hk)
                  (try clear hi)
                  (try clear ho0)
                  obtain ⟨Ao70, co70, eo70⟩ := Kd.R_slice HO217.out
                  (first | subst eo70 | (injection eo70 with f1_ f2_ f3_; have f4_ := f1_.symm; have f5_ := f3_.symm; clear f1_ f2_ f3_; subst f4_; subst f5_))
                  refine hK.out _ _ ⟨(blk_cell BK204.out 0).trans rfl, (blk_cell BK204.out 1).trans rfl, (blk_cell BK204.out 2).trans rfl, (blk_cell BK205.out 0).trans rfl, (blk_cell BK205.out 1).trans rfl, (blk_cell BK205.out 2).trans rfl⟩ (fun hHeld => ?_)
                  clear hK K
                  refine norm_ (a' := ?_) ?_ ?_
                  rotate_left
                  · show Act.put _ (some 62) _ = _
                    simp only [Act.put, List.setIfInBounds_toArray, List.set_cons_zero, List.set_cons_succ, i64_w, i32_w]
                    rfl
                  refine one_ (i := 15) (N := none) #[true, true, true, true, true, true, true, true, true, true, true, true, true, true, true, true, false] rfl rfl (one_of HT_.out (by kernel_rfl)) (by decide) (fun K hK => ?_)
                  have hs69 : w68.cell? ⟨gb206, 0, none⟩ = some (.bool false) := (blk_cell BK206.out 0).trans rfl
                  have hfs69 := blk_frozen BK206.out 0
                  have hns69_0 := NB204_206.out
                  have hns69_1 := NB205_206.out
                  have hms69_0 := NB206_204.out
                  have hms69_1 := NB206_205.out
                  have hs71 : w68.cell? ⟨gb206, 1, none⟩ = some (.slice none 0 0) := (blk_cell BK206.out 1).trans rfl
                  have hfs71 := blk_frozen BK206.out 1
                  have hns71_0 := NB204_206.out
                  have hns71_1 := NB205_206.out
                  have hms71_0 := NB206_204.out
                  have hms71_1 := NB206_205.out
                  have hs72 : w68.cell? ⟨gb206, 2, none⟩ = some (.int .i64 0) := (blk_cell BK206.out 2).trans rfl
                  have hfs72 := blk_frozen BK206.out 2
                  have hns72_0 := NB204_206.out
                  have hns72_1 := NB205_206.out
                  have hms72_0 := NB206_204.out
                  have hms72_1 := NB206_205.out
                  refine skip_ (w1 := ?_) (by rfl) rfl ?_ ?_
                  rotate_left
                  · go_simp
                    rfl
                  refine hK.out _ _ ⟨((cell_far (p := ⟨gb206, _, none⟩) NB204_206.out _).trans (((cell_far (p := ⟨gb206, _, none⟩) NB204_206.out _).trans (((cell_far (p := ⟨gb206, _, none⟩) NB204_206.out _).trans (hHeld.1)))))), ((cell_far (p := ⟨gb206, _, none⟩) NB204_206.out _).trans (((cell_far (p := ⟨gb206, _, none⟩) NB204_206.out _).trans (((cell_far (p := ⟨gb206, _, none⟩) NB204_206.out _).trans (hHeld.2.1)))))), ((cell_far (p := ⟨gb206, _, none⟩) NB204_206.out _).trans (((cell_far (p := ⟨gb206, _, none⟩) NB204_206.out _).trans (((cell_far (p := ⟨gb206, _, none⟩) NB204_206.out _).trans (hHeld.2.2.1)))))), ((cell_far (p := ⟨gb206, _, none⟩) NB205_206.out _).trans (((cell_far (p := ⟨gb206, _, none⟩) NB205_206.out _).trans (((cell_far (p := ⟨gb206, _, none⟩) NB205_206.out _).trans (hHeld.2.2.2.1)))))), ((cell_far (p := ⟨gb206, _, none⟩) NB205_206.out _).trans (((cell_far (p := ⟨gb206, _, none⟩) NB205_206.out _).trans (((cell_far (p := ⟨gb206, _, none⟩) NB205_206.out _).trans (hHeld.2.2.2.2.1)))))), ((cell_far (p := ⟨gb206, _, none⟩) NB205_206.out _).trans (((cell_far (p := ⟨gb206, _, none⟩) NB205_206.out _).trans (((cell_far (p := ⟨gb206, _, none⟩) NB205_206.out _).trans (hHeld.2.2.2.2.2))))))⟩ (fun hHeld => ?_)
                  clear hK K
                  refine pure_ (i := 16) (N := some 5) (v := ?_) (a' := ?_) #[true, true, true, true, true, true, true, true, true, true, true, true, true, true, true, true, true] rfl rfl (any_of HT_.out (by kernel_rfl)) (fun _ _ _ h => h) (Or.inl ⟨by rfl, ?_⟩) ?_ ?_
                  rotate_left
                  · intro w'
                    go_simp
                    with_reducible rfl
                  rotate_left
                  · simp only [Act.put, List.setIfInBounds_toArray, List.set_cons_zero, List.set_cons_succ, i64_w, i32_w]
                    rfl
                  refine done_ (done_of HT_.out (by kernel_rfl)) ?_
                  try go_wp2
                  refine bodyPost_ret (results_ct rfl _ _ gb206 32 #[.bool t214, .slice Ao70 t215.length co70, .int .i64 t218] (0, 0) _ rfl (by (with_reducible repeat (first | refine blk_drewN ?_ _ | refine blk_drew ?_ | refine blk_alloc ?_ _)); refine blk_put (cs := #[.bool t214, .slice Ao70 t215.length co70, .int .i64 0]) ?_ 2 _ rfl; (with_reducible repeat (first | refine blk_drewN ?_ _ | refine blk_drew ?_ | refine blk_alloc ?_ _)); refine blk_put (cs := #[.bool t214, .slice none 0 0, .int .i64 0]) ?_ 1 _ rfl; (with_reducible repeat (first | refine blk_drewN ?_ _ | refine blk_drew ?_ | refine blk_alloc ?_ _)); refine blk_put (cs := #[.bool false, .slice none 0 0, .int .i64 0]) ?_ 0 _ rfl; (with_reducible repeat (first | refine blk_drewN ?_ _ | refine blk_drew ?_ | refine blk_alloc ?_ _)); exact BK206.out) Try.underlying32 rfl (by kernel_rfl)) rfl ?_
                  exact ⟨_, by first | rfl | (simp [errW_none, errW_some] <;> rfl) | (simp only [← hji15]; first | rfl | (simp [errW_none, errW_some] <;> rfl)) | (simp [*, errW_none, errW_some] <;> rfl), by (with_reducible repeat (first | apply Kd.R_alloc | apply Kd.R_drewN | apply Kd.R_drew)); exact Kd.R_mono (Kd.R_far (p := ⟨gb206, 2, none⟩) (Kd.R_far (p := ⟨gb206, 1, none⟩) (Kd.R_far (p := ⟨gb206, 0, none⟩) (Kd.R_types HO217.out BK206.out (by decide)) (fun _ hk => hk.2) (.bool t214)) (fun _ hk => hk.2) (.slice Ao70 t215.length co70)) (fun _ hk => hk.2) (.int .i64 t218)) (fun _ hk => hk.1.1.1.1.1), by repeat (first | (with_reducible first | exact HB.out | apply below_alloc | apply pw_below_drewN | apply below_drew1 | refine below_set ?_ GE204.out | refine below_set ?_ GE205.out | refine below_set ?_ GE206.out) | exact HB.out), by repeat (first | (with_reducible first | exact HK.out | apply Kept.alloc | apply Kept.drewN | apply Kept.drew | refine Kept.setCell ?_ (.inr GW204.out) _ | refine Kept.setCell ?_ (.inr GW205.out) _ | refine Kept.setCell ?_ (.inr GW206.out) _) | exact HK.out)⟩
                · replace c53 := Bool.eq_false_iff.mpr c53
                  subst c53
                  have H1 : ((spec_wide.f kj38 a0_0 l0_1 a0_2 ji15).bind fun t219 => ((spec_wide.f kj38 a1_0 l1_1 a1_2 ji15).bind fun t222 => ((spec_sum.f kj38 a0_0 t219 t222 (a0_0 != a1_0) ji15).bind fun bt225 => (some (bt225.1, bt225.2.1, bt225.2.2, true))))) = some (r1, r2, r3, r4) := by rw [if_neg (show ¬ (false = true) by decide)] at H; exact H
                  clear H
                  have H := H1
                  clear H1
                  replace H := Option.bind_eq_some_iff.mp H
                  obtain ⟨t219, A730, H⟩ := H
                  replace H : ((spec_wide.f kj38 a1_0 l1_1 a1_2 ji15).bind fun t222 => ((spec_sum.f kj38 a0_0 t219 t222 (a0_0 != a1_0) ji15).bind fun bt225 => (some (bt225.1, bt225.2.1, bt225.2.2, true)))) = some (r1, r2, r3, r4) := H
                  have A73 := Aside0.mk A730
                  clear A730
                  replace H := Option.bind_eq_some_iff.mp H
                  obtain ⟨t222, A740, H⟩ := H
                  replace H : ((spec_sum.f kj38 a0_0 t219 t222 (a0_0 != a1_0) ji15).bind fun bt225 => (some (bt225.1, bt225.2.1, bt225.2.2, true))) = some (r1, r2, r3, r4) := H
                  have A74 := Aside0.mk A740
                  clear A740
                  replace H := Option.bind_eq_some_iff.mp H
                  obtain ⟨⟨t225, t226, t229⟩, A750, H⟩ := H
                  replace H : (some (t225, t226, t229, true)) = some (r1, r2, r3, r4) := H
                  have A75 := Aside0.mk A750
                  clear A750
                  simp only [Option.some.injEq, Prod.mk.injEq] at H
                  obtain ⟨rfl, rfl, rfl, rfl⟩ := H
                  try go_wp2
                  have n0_ := Aside0.mk (Kd.R_drew HO_206001.out)
                  have n1_ := Aside0.mk (blk_drew BK204.out)
                  have n2_ := Aside0.mk (blk_drew BK205.out)
                  have n3_ := Aside0.mk (blk_drew BK206.out)
                  have n4_ := Aside0.mk (Kept.drew HK.out)
                  have n5_ := Aside0.mk (below_drew1 HB.out)
                  clear HO_206001
                  clear BK204
                  clear BK205
                  clear BK206
                  clear HK
                  clear HB
                  have HO_206001 := n0_
                  have BK204 := n1_
                  have BK205 := n2_
                  have BK206 := n3_
                  have HK := n4_
                  have HB := n5_
                  clear n0_ n1_ n2_ n3_ n4_ n5_
                  refine start_ (n := 17) (S := fun w' => w'.cell? ⟨gb204, 0, none⟩ = some (.bool a0_0) ∧ w'.cell? ⟨gb204, 1, none⟩ = some (.slice A0_1 l0_1.length c0_1) ∧ w'.cell? ⟨gb204, 2, none⟩ = some (.int .i64 a0_2) ∧ w'.cell? ⟨gb205, 0, none⟩ = some (.bool a1_0) ∧ w'.cell? ⟨gb205, 1, none⟩ = some (.slice Ao18 l1_1.length co18) ∧ w'.cell? ⟨gb205, 2, none⟩ = some (.int .i64 a1_2)) (ds := []) #[false, false, false, false, false, false, false, false, false, false, false, false, false, false, false, false, false] (by kernel_rfl) rfl rfl ⟨(blk_cell BK204.out 0).trans rfl, (blk_cell BK204.out 1).trans rfl, (blk_cell BK204.out 2).trans rfl, (blk_cell BK205.out 0).trans rfl, (blk_cell BK205.out 1).trans rfl, (blk_cell BK205.out 2).trans rfl⟩ (fun hHeld => ?_); refine with_tabW spec_DecimalAdd.tab10 spec_DecimalAdd.bits10 (fun HT_ HW_ => ?_)
                  generalize wc.drew = w76 at HO_206001 BK204 BK205 BK206 HK HB hHeld ⊢
                  refine pure_ (i := 0) (N := some 48) (v := ?_) (a' := ?_) #[true, false, false, false, false, false, false, false, false, false, false, false, false, false, false, false, false] rfl rfl (any_of HT_.out (by kernel_rfl)) (fun _ _ _ h => h) (Or.inl ⟨by rfl, ?_⟩) ?_ ?_
                  rotate_left
                  · intro w'
                    go_simp
                    with_reducible rfl
                  rotate_left
                  · simp only [Act.put, List.setIfInBounds_toArray, List.set_cons_zero, List.set_cons_succ, i64_w, i32_w]
                    rfl
                  refine pure_ (i := 3) (N := some 51) (v := ?_) (a' := ?_) #[true, false, false, true, false, false, false, false, false, false, false, false, false, false, false, false, false] rfl rfl (any_of HT_.out (by kernel_rfl)) (fun _ _ _ h => h) (Or.inl ⟨by rfl, ?_⟩) ?_ ?_
                  rotate_left
                  · intro w'
                    go_simp
                    with_reducible rfl
                  rotate_left
                  · simp only [Act.put, List.setIfInBounds_toArray, List.set_cons_zero, List.set_cons_succ, i64_w, i32_w]
                    rfl
                  refine pure_ (i := 6) (N := some 54) (v := ?_) (a' := ?_) #[true, false, false, true, false, false, true, false, false, false, false, false, false, false, false, false, false] rfl rfl (any_of HT_.out (by kernel_rfl)) (fun _ _ _ h => h) (Or.inl ⟨by rfl, ?_⟩) ?_ ?_
                  rotate_left
                  · intro w'
                    go_simp
                    with_reducible rfl
                  rotate_left
                  · simp only [Act.put, List.setIfInBounds_toArray, List.set_cons_zero, List.set_cons_succ, i64_w, i32_w]
                    rfl
                  refine pure_ (i := 8) (N := some 56) (v := ?_) (a' := ?_) #[true, false, false, true, false, false, true, false, true, false, false, false, false, false, false, false, false] rfl rfl (any_of HT_.out (by kernel_rfl)) (fun _ _ _ h => h) (Or.inl ⟨by rfl, ?_⟩) ?_ ?_
                  rotate_left
                  · intro w'
                    go_simp
                    with_reducible rfl
                  rotate_left
                  · simp only [Act.put, List.setIfInBounds_toArray, List.set_cons_zero, List.set_cons_succ, i64_w, i32_w]
                    rfl
                  refine pure_ (i := 10) (N := some 58) (v := ?_) (a' := ?_) #[true, false, false, true, false, false, true, false, true, false, true, false, false, false, false, false, false] rfl rfl (any_of HT_.out (by kernel_rfl)) (fun _ _ _ h => h) (Or.inl ⟨by rfl, ?_⟩) ?_ ?_
                  rotate_left
                  · intro w'
                    go_simp
                    with_reducible rfl
                  rotate_left
                  · simp only [Act.put, List.setIfInBounds_toArray, List.set_cons_zero, List.set_cons_succ, i64_w, i32_w]
                    rfl
                  refine pure_ (i := 13) (N := some 61) (v := ?_) (a' := ?_) #[true, false, false, true, false, false, true, false, true, false, true, false, false, true, false, false, false] rfl rfl (any_of HT_.out (by kernel_rfl)) (fun _ _ _ h => h) (Or.inl ⟨by rfl, ?_⟩) ?_ ?_
                  rotate_left
                  · intro w'
                    go_simp
                    with_reducible rfl
                  rotate_left
                  · simp only [Act.put, List.setIfInBounds_toArray, List.set_cons_zero, List.set_cons_succ, i64_w, i32_w]
                    rfl
                  refine take_ (i := 1) (N := some 49) (v := ?_) (a' := ?_) #[true, true, false, true, false, false, true, false, true, false, true, false, false, true, false, false, false] rfl rfl (take_ofW HT_.out HW_.out (by kernel_rfl)) (fun _ _ _ h => h) (Or.inl ⟨by rfl, ?_⟩) hHeld ?_ ?_
                  rotate_left
                  · rintro w' ⟨s0, s1, s2, s3, s4, s5⟩
                    go_simp
                    with_reducible rfl
                  rotate_left
                  · simp only [Act.put, List.setIfInBounds_toArray, List.set_cons_zero, List.set_cons_succ, i64_w, i32_w]
                    rfl
                  refine take_ (i := 2) (N := some 50) (v := ?_) (a' := ?_) #[true, true, true, true, false, false, true, false, true, false, true, false, false, true, false, false, false] rfl rfl (take_ofW HT_.out HW_.out (by kernel_rfl)) (fun _ _ _ h => h) (Or.inl ⟨by rfl, ?_⟩) hHeld ?_ ?_
                  rotate_left
                  · rintro w' ⟨s0, s1, s2, s3, s4, s5⟩
                    go_simp
                    with_reducible rfl
                  rotate_left
                  · simp only [Act.put, List.setIfInBounds_toArray, List.set_cons_zero, List.set_cons_succ, i64_w, i32_w]
                    rfl
                  refine take_ (i := 5) (N := some 53) (v := ?_) (a' := ?_) #[true, true, true, true, false, true, true, false, true, false, true, false, false, true, false, false, false] rfl rfl (take_ofW HT_.out HW_.out (by kernel_rfl)) (fun _ _ _ h => h) (Or.inl ⟨by rfl, ?_⟩) hHeld ?_ ?_
                  rotate_left
                  · rintro w' ⟨s0, s1, s2, s3, s4, s5⟩
                    go_simp
                    with_reducible rfl
                  rotate_left
                  · simp only [Act.put, List.setIfInBounds_toArray, List.set_cons_zero, List.set_cons_succ, i64_w, i32_w]
                    rfl
                  refine take_ (i := 9) (N := some 57) (v := ?_) (a' := ?_) #[true, true, true, true, false, true, true, false, true, true, true, false, false, true, false, false, false] rfl rfl (take_ofW HT_.out HW_.out (by kernel_rfl)) (fun _ _ _ h => h) (Or.inl ⟨by rfl, ?_⟩) hHeld ?_ ?_
                  rotate_left
                  · rintro w' ⟨s0, s1, s2, s3, s4, s5⟩
                    go_simp
                    with_reducible rfl
                  rotate_left
                  · simp only [Act.put, List.setIfInBounds_toArray, List.set_cons_zero, List.set_cons_succ, i64_w, i32_w]
                    rfl
                  refine take_ (i := 11) (N := some 59) (v := ?_) (a' := ?_) #[true, true, true, true, false, true, true, false, true, true, true, true, false, true, false, false, false] rfl rfl (take_ofW HT_.out HW_.out (by kernel_rfl)) (fun _ _ _ h => h) (Or.inl ⟨by rfl, ?_⟩) hHeld ?_ ?_
                  rotate_left
                  · rintro w' ⟨s0, s1, s2, s3, s4, s5⟩
                    go_simp
                    with_reducible rfl
                  rotate_left
                  · simp only [Act.put, List.setIfInBounds_toArray, List.set_cons_zero, List.set_cons_succ, i64_w, i32_w]
                    rfl
                  refine pure_ (i := 12) (N := some 60) (v := ?_) (a' := ?_) #[true, true, true, true, false, true, true, false, true, true, true, true, true, true, false, false, false] rfl rfl (any_of HT_.out (by kernel_rfl)) (fun _ _ _ h => h) (Or.inl ⟨by rfl, ?_⟩) ?_ ?_
                  rotate_left
                  · intro w'
                    go_simp
                    with_reducible rfl
                  rotate_left
                  · simp only [Act.put, List.setIfInBounds_toArray, List.set_cons_zero, List.set_cons_succ, i64_w, i32_w]
                    rfl
                  refine one_ (i := 4) (N := some 52) #[true, true, true, true, true, true, true, false, true, true, true, true, true, true, false, false, false] rfl rfl (one_of HT_.out (by kernel_rfl)) (by decide) (fun K hK => ?_)
                  refine goes_ Try.func25 (by kernel_rfl) rfl #[.agg #[.bool a0_0, .slice A0_1 l0_1.length c0_1, .int .i64 a0_2], .int .i64 ji15] (by rfl) rfl rfl (by (try simp only [List.map_toArray, List.map_cons, List.map_nil]); first | done | (simp only [hji15]; rfl) | rfl | (simp only [List.length_drop, List.length_take]; rfl)) ?_
                  with_reducible refine (spec_wide.calls kj38 a0_0 _ _ l0_1 a0_2 ji15 t219 _ ?side1 ?side2 A73.out).mono ?_
                  (case side1 => exact Kd.C_kept_now HR0_1.out (by repeat (first | (with_reducible first | exact HK.out | apply Kept.alloc | apply Kept.drewN | apply Kept.drew | refine Kept.setCell ?_ (.inr GW204.out) _ | refine Kept.setCell ?_ (.inr GW205.out) _ | refine Kept.setCell ?_ (.inr GW206.out) _) | exact HK.out)))
                  (case side2 => exact HC0_1.out)
                  rintro e w77 ⟨v220, rfl, ho0, hb⟩
                  refine ⟨_, rfl, ?_⟩
                  have n0_ := Aside0.mk (Kd.R_elder' (by (with_reducible repeat (first | apply Kd.R_alloc | apply Kd.R_drewN | apply Kd.R_drew)); exact HO_206001.out) (Kd.R_base ho0) hb)
                  have n1_ := Aside0.mk (Kd.R_lower (Kd.R_new' (Kd.R_newM (M := fun k_ => (P1_1_ k_ ∨ w.heap.size ≤ k_)) ho0 (by first | exact HK.out.1 | exact (show Kept w _ (fun k_ => P1_1_ k_) from by repeat (first | (with_reducible first | exact HK.out | apply Kept.alloc | apply Kept.drewN | apply Kept.drew | refine Kept.setCell ?_ (.inr GW204.out) _ | refine Kept.setCell ?_ (.inr GW205.out) _ | refine Kept.setCell ?_ (.inr GW206.out) _) | exact HK.out)).1) (fun k_ h_ => .inr h_)) (Kd.R_lt (by (with_reducible repeat (first | apply Kd.R_alloc | apply Kd.R_drewN | apply Kd.R_drew)); exact HO_206001.out))) (below_size (by repeat (first | (with_reducible first | exact HB.out | apply below_alloc | apply pw_below_drewN | apply below_drew1 | refine below_set ?_ GE204.out | refine below_set ?_ GE205.out | refine below_set ?_ GE206.out) | exact HB.out))))
                  have n2_ := Aside0.mk (blk_below (g := gb204) (o := .cells #[.bool a0_0, .slice A0_1 l0_1.length c0_1, .int .i64 a0_2] 32 (0, 0)) (by (with_reducible repeat (first | refine blk_drewN ?_ _ | refine blk_drew ?_ | refine blk_alloc ?_ _)); exact BK204.out) hb)
                  have n3_ := Aside0.mk (blk_below (g := gb205) (o := .cells #[.bool a1_0, .slice Ao18 l1_1.length co18, .int .i64 a1_2] 32 (0, 0)) (by (with_reducible repeat (first | refine blk_drewN ?_ _ | refine blk_drew ?_ | refine blk_alloc ?_ _)); exact BK205.out) hb)
                  have n4_ := Aside0.mk (blk_below (g := gb206) (o := .cells #[.bool false, .slice none 0 0, .int .i64 0] 32 (0, 0)) (by (with_reducible repeat (first | refine blk_drewN ?_ _ | refine blk_drew ?_ | refine blk_alloc ?_ _)); exact BK206.out) hb)
                  have n5_ := Aside0.mk (Kept.below (S := (fun k_ => P1_1_ k_)) (by repeat (first | (with_reducible first | exact HK.out | apply Kept.alloc | apply Kept.drewN | apply Kept.drew | refine Kept.setCell ?_ (.inr GW204.out) _ | refine Kept.setCell ?_ (.inr GW205.out) _ | refine Kept.setCell ?_ (.inr GW206.out) _) | exact HK.out)) hb)
                  have n6_ := Aside0.mk (below_step (by repeat (first | (with_reducible first | exact HB.out | apply below_alloc | apply pw_below_drewN | apply below_drew1 | refine below_set ?_ GE204.out | refine below_set ?_ GE205.out | refine below_set ?_ GE206.out) | exact HB.out)) hb)
                  clear HO_206001
                  clear BK204
                  clear BK205
                  clear BK206
                  clear HK
                  clear HB
                  have HO_206001 := n0_
                  have HO221 := n1_
                  have BK204 := n2_
                  have BK205 := n3_
                  have BK206 := n4_
                  have HK := n5_
                  have HB := n6_
                  clear n0_ n1_ n2_ n3_ n4_ n5_ n6_
                  (try clear hb)
                  (try clear hb2)
                  (try clear hk)
                  (try clear hi)
                  (try clear ho0)
                  refine hK.out _ _ ⟨(blk_cell BK204.out 0).trans rfl, (blk_cell BK204.out 1).trans rfl, (blk_cell BK204.out 2).trans rfl, (blk_cell BK205.out 0).trans rfl, (blk_cell BK205.out 1).trans rfl, (blk_cell BK205.out 2).trans rfl⟩ (fun hHeld => ?_)
                  clear hK K
                  refine norm_ (a' := ?_) ?_ ?_
                  rotate_left
                  · show Act.put _ (some 52) _ = _
                    simp only [Act.put, List.setIfInBounds_toArray, List.set_cons_zero, List.set_cons_succ, i64_w, i32_w]
                    rfl
                  refine one_ (i := 7) (N := some 55) #[true, true, true, true, true, true, true, true, true, true, true, true, true, true, false, false, false] rfl rfl (one_of HT_.out (by kernel_rfl)) (by decide) (fun K hK => ?_)
                  refine goes_ Try.func25 (by kernel_rfl) rfl #[.agg #[.bool a1_0, .slice Ao18 l1_1.length co18, .int .i64 a1_2], .int .i64 ji15] (by rfl) rfl rfl (by (try simp only [List.map_toArray, List.map_cons, List.map_nil]); first | done | (simp only [hji15]; rfl) | rfl | (simp only [List.length_drop, List.length_take]; rfl)) ?_
                  with_reducible refine (spec_wide.calls kj38 a1_0 _ _ l1_1 a1_2 ji15 t222 _ ?side1 ?side2 A74.out).mono ?_
                  (case side1 => repeat (first | exact (Kd.R_reads' HO_206001.out).2.2 | (with_reducible refine Kd.C_alloc ?_ _) | (with_reducible refine Kd.C_drewN ?_ _) | (with_reducible refine Kd.C_drew ?_)))
                  (case side2 => exact (Kd.R_reads' HO_206001.out).2.1)
                  rintro e w78 ⟨v223, rfl, ho0, hb⟩
                  refine ⟨_, rfl, ?_⟩
                  have n0_ := Aside0.mk (Kd.R_elder' (by (with_reducible repeat (first | apply Kd.R_alloc | apply Kd.R_drewN | apply Kd.R_drew)); exact HO_206001.out) (Kd.R_base ho0) hb)
                  have n1_ := Aside0.mk (Kd.R_elder' (by (with_reducible repeat (first | apply Kd.R_alloc | apply Kd.R_drewN | apply Kd.R_drew)); exact HO221.out) (Kd.R_base ho0) hb)
                  have n2_ := Aside0.mk (Kd.R_lower (Kd.R_new' (Kd.R_new' (Kd.R_newM (M := fun k_ => (P1_1_ k_ ∨ w.heap.size ≤ k_)) ho0 (by first | exact HK.out.1 | exact (show Kept w _ (fun k_ => P1_1_ k_) from by repeat (first | (with_reducible first | exact HK.out | apply Kept.alloc | apply Kept.drewN | apply Kept.drew | refine Kept.setCell ?_ (.inr GW204.out) _ | refine Kept.setCell ?_ (.inr GW205.out) _ | refine Kept.setCell ?_ (.inr GW206.out) _) | exact HK.out)).1) (fun k_ h_ => .inr h_)) (Kd.R_lt (by (with_reducible repeat (first | apply Kd.R_alloc | apply Kd.R_drewN | apply Kd.R_drew)); exact HO_206001.out))) (Kd.R_lt (by (with_reducible repeat (first | apply Kd.R_alloc | apply Kd.R_drewN | apply Kd.R_drew)); exact HO221.out))) (below_size (by repeat (first | (with_reducible first | exact HB.out | apply below_alloc | apply pw_below_drewN | apply below_drew1 | refine below_set ?_ GE204.out | refine below_set ?_ GE205.out | refine below_set ?_ GE206.out) | exact HB.out))))
                  have n3_ := Aside0.mk (blk_below (g := gb204) (o := .cells #[.bool a0_0, .slice A0_1 l0_1.length c0_1, .int .i64 a0_2] 32 (0, 0)) (by (with_reducible repeat (first | refine blk_drewN ?_ _ | refine blk_drew ?_ | refine blk_alloc ?_ _)); exact BK204.out) hb)
                  have n4_ := Aside0.mk (blk_below (g := gb205) (o := .cells #[.bool a1_0, .slice Ao18 l1_1.length co18, .int .i64 a1_2] 32 (0, 0)) (by (with_reducible repeat (first | refine blk_drewN ?_ _ | refine blk_drew ?_ | refine blk_alloc ?_ _)); exact BK205.out) hb)
                  have n5_ := Aside0.mk (blk_below (g := gb206) (o := .cells #[.bool false, .slice none 0 0, .int .i64 0] 32 (0, 0)) (by (with_reducible repeat (first | refine blk_drewN ?_ _ | refine blk_drew ?_ | refine blk_alloc ?_ _)); exact BK206.out) hb)
                  have n6_ := Aside0.mk (Kept.below (S := (fun k_ => P1_1_ k_)) (by repeat (first | (with_reducible first | exact HK.out | apply Kept.alloc | apply Kept.drewN | apply Kept.drew | refine Kept.setCell ?_ (.inr GW204.out) _ | refine Kept.setCell ?_ (.inr GW205.out) _ | refine Kept.setCell ?_ (.inr GW206.out) _) | exact HK.out)) hb)
                  have n7_ := Aside0.mk (below_step (by repeat (first | (with_reducible first | exact HB.out | apply below_alloc | apply pw_below_drewN | apply below_drew1 | refine below_set ?_ GE204.out | refine below_set ?_ GE205.out | refine below_set ?_ GE206.out) | exact HB.out)) hb)
                  clear HO_206001
                  clear HO221
                  clear BK204
                  clear BK205
                  clear BK206
                  clear HK
                  clear HB
                  have HO_206001 := n0_
                  have HO221 := n1_
                  have HO224 := n2_
                  have BK204 := n3_
                  have BK205 := n4_
                  have BK206 := n5_
                  have HK := n6_
                  have HB := n7_
                  clear n0_ n1_ n2_ n3_ n4_ n5_ n6_ n7_
                  (try clear hb)
                  (try clear hb2)
                  (try clear hk)
                  (try clear hi)
                  (try clear ho0)
                  obtain ⟨Ao79, co79, eo79⟩ := Kd.R_slice HO221.out
                  (first | subst eo79 | (injection eo79 with f1_ f2_ f3_; have f4_ := f1_.symm; have f5_ := f3_.symm; clear f1_ f2_ f3_; subst f4_; subst f5_))
                  obtain ⟨Ao80, co80, eo80⟩ := Kd.R_slice HO224.out
                  (first | subst eo80 | (injection eo80 with f1_ f2_ f3_; have f4_ := f1_.symm; have f5_ := f3_.symm; clear f1_ f2_ f3_; subst f4_; subst f5_))
                  refine hK.out _ _ ⟨(blk_cell BK204.out 0).trans rfl, (blk_cell BK204.out 1).trans rfl, (blk_cell BK204.out 2).trans rfl, (blk_cell BK205.out 0).trans rfl, (blk_cell BK205.out 1).trans rfl, (blk_cell BK205.out 2).trans rfl⟩ (fun hHeld => ?_)
                  clear hK K
                  refine norm_ (a' := ?_) ?_ ?_
                  rotate_left
                  · show Act.put _ (some 55) _ = _
                    simp only [Act.put, List.setIfInBounds_toArray, List.set_cons_zero, List.set_cons_succ, i64_w, i32_w]
                    rfl
                  refine one_ (i := 14) (N := some 62) #[true, true, true, true, true, true, true, true, true, true, true, true, true, true, true, false, false] rfl rfl (one_of HT_.out (by kernel_rfl)) (by decide) (fun K hK => ?_)
                  refine goes_ Try.func24 (by kernel_rfl) rfl #[.bool a0_0, .slice Ao79 t219.length co79, .slice Ao80 t222.length co80, .bool (a0_0 != a1_0), .int .i64 ji15] (by rfl) rfl rfl (by (try simp only [List.map_toArray, List.map_cons, List.map_nil]); first | done | (simp only [hji15]; rfl) | rfl | (simp only [List.length_drop, List.length_take]; rfl)) ?_
                  with_reducible refine (spec_sum.calls kj38 a0_0 _ _ t219 _ _ t222 (a0_0 != a1_0) ji15 t225 t226 t229 _ ?side1 ?side2 ?side3 ?side4 A75.out).mono ?_
                  (case side1 => repeat (first | exact (Kd.R_reads' HO221.out).2.2 | (with_reducible refine Kd.C_alloc ?_ _) | (with_reducible refine Kd.C_drewN ?_ _) | (with_reducible refine Kd.C_drew ?_)))
                  (case side2 => exact (Kd.R_reads' HO221.out).2.1)
                  (case side3 => repeat (first | exact (Kd.R_reads' HO224.out).2.2 | (with_reducible refine Kd.C_alloc ?_ _) | (with_reducible refine Kd.C_drewN ?_ _) | (with_reducible refine Kd.C_drew ?_)))
                  (case side4 => exact (Kd.R_reads' HO224.out).2.1)
                  rintro e w81 ⟨v227, rfl, ho0, hb⟩
                  refine ⟨_, rfl, ?_⟩
                  have n0_ := Aside0.mk (Kd.R_elder' (by (with_reducible repeat (first | apply Kd.R_alloc | apply Kd.R_drewN | apply Kd.R_drew)); exact HO_206001.out) (Kd.R_base ho0) hb)
                  have n1_ := Aside0.mk (Kd.R_elder' (by (with_reducible repeat (first | apply Kd.R_alloc | apply Kd.R_drewN | apply Kd.R_drew)); exact HO221.out) (Kd.R_base ho0) hb)
                  have n2_ := Aside0.mk (Kd.R_elder' (by (with_reducible repeat (first | apply Kd.R_alloc | apply Kd.R_drewN | apply Kd.R_drew)); exact HO224.out) (Kd.R_base ho0) hb)
                  have n3_ := Aside0.mk (Kd.R_lower (Kd.R_new' (Kd.R_new' (Kd.R_new' (Kd.R_newM (M := fun k_ => (P1_1_ k_ ∨ w.heap.size ≤ k_)) ho0 (by first | exact HK.out.1 | exact (show Kept w _ (fun k_ => P1_1_ k_) from by repeat (first | (with_reducible first | exact HK.out | apply Kept.alloc | apply Kept.drewN | apply Kept.drew | refine Kept.setCell ?_ (.inr GW204.out) _ | refine Kept.setCell ?_ (.inr GW205.out) _ | refine Kept.setCell ?_ (.inr GW206.out) _) | exact HK.out)).1) (fun k_ h_ => .inr h_)) (Kd.R_lt (by (with_reducible repeat (first | apply Kd.R_alloc | apply Kd.R_drewN | apply Kd.R_drew)); exact HO_206001.out))) (Kd.R_lt (by (with_reducible repeat (first | apply Kd.R_alloc | apply Kd.R_drewN | apply Kd.R_drew)); exact HO221.out))) (Kd.R_lt (by (with_reducible repeat (first | apply Kd.R_alloc | apply Kd.R_drewN | apply Kd.R_drew)); exact HO224.out))) (below_size (by repeat (first | (with_reducible first | exact HB.out | apply below_alloc | apply pw_below_drewN | apply below_drew1 | refine below_set ?_ GE204.out | refine below_set ?_ GE205.out | refine below_set ?_ GE206.out) | exact HB.out))))
                  have n4_ := Aside0.mk (blk_below (g := gb204) (o := .cells #[.bool a0_0, .slice A0_1 l0_1.length c0_1, .int .i64 a0_2] 32 (0, 0)) (by (with_reducible repeat (first | refine blk_drewN ?_ _ | refine blk_drew ?_ | refine blk_alloc ?_ _)); exact BK204.out) hb)
                  have n5_ := Aside0.mk (blk_below (g := gb205) (o := .cells #[.bool a1_0, .slice Ao18 l1_1.length co18, .int .i64 a1_2] 32 (0, 0)) (by (with_reducible repeat (first | refine blk_drewN ?_ _ | refine blk_drew ?_ | refine blk_alloc ?_ _)); exact BK205.out) hb)
                  have n6_ := Aside0.mk (blk_below (g := gb206) (o := .cells #[.bool false, .slice none 0 0, .int .i64 0] 32 (0, 0)) (by (with_reducible repeat (first | refine blk_drewN ?_ _ | refine blk_drew ?_ | refine blk_alloc ?_ _)); exact BK206.out) hb)
                  have n7_ := Aside0.mk (Kept.below (S := (fun k_ => P1_1_ k_)) (by repeat (first | (with_reducible first | exact HK.out | apply Kept.alloc | apply Kept.drewN | apply Kept.drew | refine Kept.setCell ?_ (.inr GW204.out) _ | refine Kept.setCell ?_ (.inr GW205.out) _ | refine Kept.setCell ?_ (.inr GW206.out) _) | exact HK.out)) hb)
                  have n8_ := Aside0.mk (below_step (by repeat (first | (with_reducible first | exact HB.out | apply below_alloc | apply pw_below_drewN | apply below_drew1 | refine below_set ?_ GE204.out | refine below_set ?_ GE205.out | refine below_set ?_ GE206.out) | exact HB.out)) hb)
                  clear HO_206001
                  clear HO221
                  clear HO224
                  clear BK204
                  clear BK205
                  clear BK206
                  clear HK
                  clear HB
                  have HO_206001 := n0_
                  have HO221 := n1_
                  have HO224 := n2_
                  have HO228 := n3_
                  have BK204 := n4_
                  have BK205 := n5_
                  have BK206 := n6_
                  have HK := n7_
                  have HB := n8_
                  clear n0_ n1_ n2_ n3_ n4_ n5_ n6_ n7_ n8_
                  (try clear hb)
                  (try clear hb2)
                  (try clear hk)
                  (try clear hi)
                  (try clear ho0)
                  obtain ⟨Ao83, co83, eo83⟩ := Kd.R_slice HO228.out
                  (first | subst eo83 | (injection eo83 with f1_ f2_ f3_; have f4_ := f1_.symm; have f5_ := f3_.symm; clear f1_ f2_ f3_; subst f4_; subst f5_))
                  refine hK.out _ _ ⟨(blk_cell BK204.out 0).trans rfl, (blk_cell BK204.out 1).trans rfl, (blk_cell BK204.out 2).trans rfl, (blk_cell BK205.out 0).trans rfl, (blk_cell BK205.out 1).trans rfl, (blk_cell BK205.out 2).trans rfl⟩ (fun hHeld => ?_)
                  clear hK K
                  refine norm_ (a' := ?_) ?_ ?_
                  rotate_left
                  · show Act.put _ (some 62) _ = _
                    simp only [Act.put, List.setIfInBounds_toArray, List.set_cons_zero, List.set_cons_succ, i64_w, i32_w]
                    rfl
                  refine one_ (i := 15) (N := none) #[true, true, true, true, true, true, true, true, true, true, true, true, true, true, true, true, false] rfl rfl (one_of HT_.out (by kernel_rfl)) (by decide) (fun K hK => ?_)
                  have hs82 : w81.cell? ⟨gb206, 0, none⟩ = some (.bool false) := (blk_cell BK206.out 0).trans rfl
                  have hfs82 := blk_frozen BK206.out 0
                  have hns82_0 := NB204_206.out
                  have hns82_1 := NB205_206.out
                  have hms82_0 := NB206_204.out
                  have hms82_1 := NB206_205.out
                  have hs84 : w81.cell? ⟨gb206, 1, none⟩ = some (.slice none 0 0) := (blk_cell BK206.out 1).trans rfl
                  have hfs84 := blk_frozen BK206.out 1
                  have hns84_0 := NB204_206.out
                  have hns84_1 := NB205_206.out
                  have hms84_0 := NB206_204.out
                  have hms84_1 := NB206_205.out
                  have hs85 : w81.cell? ⟨gb206, 2, none⟩ = some (.int .i64 0) := (blk_cell BK206.out 2).trans rfl
                  have hfs85 := blk_frozen BK206.out 2
                  have hns85_0 := NB204_206.out
                  have hns85_1 := NB205_206.out
                  have hms85_0 := NB206_204.out
                  have hms85_1 := NB206_205.out
                  refine skip_ (w1 := ?_) (by rfl) rfl ?_ ?_
                  rotate_left
                  · go_simp
                    rfl
                  refine hK.out _ _ ⟨((cell_far (p := ⟨gb206, _, none⟩) NB204_206.out _).trans (((cell_far (p := ⟨gb206, _, none⟩) NB204_206.out _).trans (((cell_far (p := ⟨gb206, _, none⟩) NB204_206.out _).trans (hHeld.1)))))), ((cell_far (p := ⟨gb206, _, none⟩) NB204_206.out _).trans (((cell_far (p := ⟨gb206, _, none⟩) NB204_206.out _).trans (((cell_far (p := ⟨gb206, _, none⟩) NB204_206.out _).trans (hHeld.2.1)))))), ((cell_far (p := ⟨gb206, _, none⟩) NB204_206.out _).trans (((cell_far (p := ⟨gb206, _, none⟩) NB204_206.out _).trans (((cell_far (p := ⟨gb206, _, none⟩) NB204_206.out _).trans (hHeld.2.2.1)))))), ((cell_far (p := ⟨gb206, _, none⟩) NB205_206.out _).trans (((cell_far (p := ⟨gb206, _, none⟩) NB205_206.out _).trans (((cell_far (p := ⟨gb206, _, none⟩) NB205_206.out _).trans (hHeld.2.2.2.1)))))), ((cell_far (p := ⟨gb206, _, none⟩) NB205_206.out _).trans (((cell_far (p := ⟨gb206, _, none⟩) NB205_206.out _).trans (((cell_far (p := ⟨gb206, _, none⟩) NB205_206.out _).trans (hHeld.2.2.2.2.1)))))), ((cell_far (p := ⟨gb206, _, none⟩) NB205_206.out _).trans (((cell_far (p := ⟨gb206, _, none⟩) NB205_206.out _).trans (((cell_far (p := ⟨gb206, _, none⟩) NB205_206.out _).trans (hHeld.2.2.2.2.2))))))⟩ (fun hHeld => ?_)
                  clear hK K
                  refine pure_ (i := 16) (N := some 5) (v := ?_) (a' := ?_) #[true, true, true, true, true, true, true, true, true, true, true, true, true, true, true, true, true] rfl rfl (any_of HT_.out (by kernel_rfl)) (fun _ _ _ h => h) (Or.inl ⟨by rfl, ?_⟩) ?_ ?_
                  rotate_left
                  · intro w'
                    go_simp
                    with_reducible rfl
                  rotate_left
                  · simp only [Act.put, List.setIfInBounds_toArray, List.set_cons_zero, List.set_cons_succ, i64_w, i32_w]
                    rfl
                  refine done_ (done_of HT_.out (by kernel_rfl)) ?_
                  try go_wp2
                  refine bodyPost_ret (results_ct rfl _ _ gb206 32 #[.bool t225, .slice Ao83 t226.length co83, .int .i64 t229] (0, 0) _ rfl (by (with_reducible repeat (first | refine blk_drewN ?_ _ | refine blk_drew ?_ | refine blk_alloc ?_ _)); refine blk_put (cs := #[.bool t225, .slice Ao83 t226.length co83, .int .i64 0]) ?_ 2 _ rfl; (with_reducible repeat (first | refine blk_drewN ?_ _ | refine blk_drew ?_ | refine blk_alloc ?_ _)); refine blk_put (cs := #[.bool t225, .slice none 0 0, .int .i64 0]) ?_ 1 _ rfl; (with_reducible repeat (first | refine blk_drewN ?_ _ | refine blk_drew ?_ | refine blk_alloc ?_ _)); refine blk_put (cs := #[.bool false, .slice none 0 0, .int .i64 0]) ?_ 0 _ rfl; (with_reducible repeat (first | refine blk_drewN ?_ _ | refine blk_drew ?_ | refine blk_alloc ?_ _)); exact BK206.out) Try.underlying32 rfl (by kernel_rfl)) rfl ?_
                  exact ⟨_, by first | rfl | (simp [errW_none, errW_some] <;> rfl) | (simp only [← hji15]; first | rfl | (simp [errW_none, errW_some] <;> rfl)) | (simp [*, errW_none, errW_some] <;> rfl), by (with_reducible repeat (first | apply Kd.R_alloc | apply Kd.R_drewN | apply Kd.R_drew)); exact Kd.R_mono (Kd.R_far (p := ⟨gb206, 2, none⟩) (Kd.R_far (p := ⟨gb206, 1, none⟩) (Kd.R_far (p := ⟨gb206, 0, none⟩) (Kd.R_types HO228.out BK206.out (by decide)) (fun _ hk => hk.2) (.bool t225)) (fun _ hk => hk.2) (.slice Ao83 t226.length co83)) (fun _ hk => hk.2) (.int .i64 t229)) (fun _ hk => hk.1.1.1.1.1), by repeat (first | (with_reducible first | exact HB.out | apply below_alloc | apply pw_below_drewN | apply below_drew1 | refine below_set ?_ GE204.out | refine below_set ?_ GE205.out | refine below_set ?_ GE206.out) | exact HB.out), by repeat (first | (with_reducible first | exact HK.out | apply Kept.alloc | apply Kept.drewN | apply Kept.drew | refine Kept.setCell ?_ (.inr GW204.out) _ | refine Kept.setCell ?_ (.inr GW205.out) _ | refine Kept.setCell ?_ (.inr GW206.out) _) | exact HK.out)⟩

end Go.Proofs.Ytmkpkpkcoieeiaa.XFnAmountSub
