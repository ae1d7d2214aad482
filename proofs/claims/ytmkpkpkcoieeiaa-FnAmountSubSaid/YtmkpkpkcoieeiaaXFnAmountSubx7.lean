/- A text of this session: the functions of the law FnAmountSub, by a program that calls the kit's print and lays this session's own contracts of single functions beside. -/
import Derived.Test.YtmkpkpkcoieeiaaXFnAmountSubx0
import Derived.Test.YtmkpkpkcoieeiaaXFnAmountSubx1
import Derived.Test.YtmkpkpkcoieeiaaXFnAmountSubx2
import Derived.Test.YtmkpkpkcoieeiaaXFnAmountSubx3
import Derived.Test.YtmkpkpkcoieeiaaXFnAmountSubx4
namespace Go.Proofs.Ytmkpkpkcoieeiaa.XFnAmountSub
open Go.RowKit Go.Proofs.YtmkpkpkcoieeiaaW.PrintWords Go.Proofs.YtmkpkpkcoieeiaaW.PrintLast Go.Proofs.YtmkpkpkcoieeiaaW.PrintMore
attribute [local go_sem] max2_int min2_int max_two min_two max_three min_three max_four min_four   -- for this text's walks alone
set_option linter.unusedVariables false
set_option linter.unusedSimpArgs false

/-! ### spec_DecimalNeg: function 11 -/
def spec_DecimalNeg.f (a0_0 : Bool) (l0_1 : List Int) (a0_2 : Int) : Option (Bool × List Int × Int) := if (l0_1.length : Int) > 0 then (some (!a0_0, l0_1, a0_2)) else (some (a0_0, l0_1, a0_2))
set_option maxHeartbeats 8000000 in
set_option maxRecDepth 100000 in
theorem spec_DecimalNeg.calls (a0_0 : Bool) (P0_1_ : Nat → Prop) (u9000_ : Value) (l0_1 : List Int) (a0_2 : Int) (r1 : Bool) (r2 : List Int) (r3 : Int) (w0 w : World) (hB : Below w0.heap.size w0 w) (ho0_1 : Kd.R (Kd.int .i64) 3 w w0.heap.size P0_1_ u9000_ l0_1) (h : spec_DecimalNeg.f a0_0 l0_1 a0_2 = some (r1, r2, r3)) :
    Calls Try.prog 11 #[.agg #[.bool a0_0, u9000_, .int .i64 a0_2]] w fun e w' => ∃ v1_ : Value, e = .returned (.agg #[.bool r1, v1_, .int .i64 r3]) ∧ Kd.R (Kd.int .i64) 3 w' w0.heap.size (fun k_ => (P0_1_ k_ ∨ w.heap.size ≤ k_)) v1_ r2 ∧ Below w0.heap.size w0 w' ∧ Kept w w' (fun k_ => P0_1_ k_) := by
  have hu32 := Try.underlying32
  have HO0_1 := Aside0.mk (show Kd.R (Kd.int .i64) 3 w w0.heap.size (fun k_ => (P0_1_ k_ ∨ w.heap.size ≤ k_)) u9000_ l0_1 from Kd.R_mono ho0_1 (fun k_ hk => (.inl hk)))
  have HK := Aside0.mk (Kept.refl w (fun k_ => P0_1_ k_))
  have HW0 := Aside0.mk hB.size
  have HB := Aside0.mk hB
  clear hB
  have H : (if (l0_1.length : Int) > 0 then (some (!a0_0, l0_1, a0_2)) else (some (a0_0, l0_1, a0_2))) = some (r1, r2, r3) := h
  clear h
  by_cases c2 : (l0_1.length : Int) > 0
  · rw [if_pos c2] at H
    have c2b0 : decide (0 < (l0_1.length : Int)) = true := decide_eq_true c2
    have c2b1 : decide (0 < l0_1.length) = true := decide_eq_true (by omega)
    clear c2
    simp only [Option.some.injEq, Prod.mk.injEq] at H
    obtain ⟨rfl, rfl, rfl⟩ := H
    obtain ⟨Ao3, co3, eo3⟩ := Kd.R_slice HO0_1.out
    subst eo3
    go_enter Try.func11, Try.ntmps11
    go_wp2_with (first | ((with_reducible refine gate_dst (N := 1) rfl ?_); refine box_event ?hg (N := 1) ?hd (cs := #[.bool a0_0, .slice Ao3 l0_1.length co3, .int .i64 a0_2]) (t := 32) ?hr ?_; (case hd => rfl); (case hg => rfl); (case hr => first | (go_simp; done) | (go_simp; rfl)); intro gb230 hg w4 hbox hb; have n0_ := Aside0.mk (Kd.R_below (by (with_reducible repeat (first | apply Kd.R_alloc | apply Kd.R_drewN | apply Kd.R_drew)); exact HO0_1.out) hb); have n1_ := Aside0.mk (Kept.below (S := (fun k_ => P0_1_ k_)) (by repeat (first | (with_reducible first | exact HK.out | apply Kept.alloc | apply Kept.drewN | apply Kept.drew) | exact HK.out)) hb); have n2_ := Aside0.mk (below_step (by repeat (first | (with_reducible first | exact HB.out | apply below_alloc | apply pw_below_drewN | apply below_drew1) | exact HB.out)) hb); have n3_ := Aside0.mk (hbox); have n4_ := Aside0.mk ((by rw [hg]; exact (by first | exact HK.out.1 | exact (show Kept w _ (fun k_ => P0_1_ k_) from by repeat (first | (with_reducible first | exact HK.out | apply Kept.alloc | apply Kept.drewN | apply Kept.drew) | exact HK.out)).1) : w.heap.size ≤ gb230)); have n5_ := Aside0.mk ((by rw [hg]; exact (below_size (by repeat (first | (with_reducible first | exact HB.out | apply below_alloc | apply pw_below_drewN | apply below_drew1) | exact HB.out))) : w0.heap.size ≤ gb230)); clear HO0_1; clear HK; clear HB; have HO0_1 := n0_; have HK := n1_; have HB := n2_; have BK230 := n3_; have GW230 := n4_; have GE230 := n5_; clear n0_ n1_ n2_ n3_ n4_ n5_; clear hb hbox hg) | ((with_reducible refine gate_dst (N := 2) rfl ?_); refine box_event ?hg (N := 2) ?hd (cs := #[.bool false, .slice none 0 0, .int .i64 0]) (t := 32) ?hr ?_; (case hd => rfl); (case hg => rfl); (case hr => first | (go_simp; done) | (go_simp; rfl)); intro gb231 hg w5 hbox hb; have n0_ := Aside0.mk (Kd.R_below (by (with_reducible repeat (first | apply Kd.R_alloc | apply Kd.R_drewN | apply Kd.R_drew)); exact HO0_1.out) hb); have n1_ := Aside0.mk (blk_below (g := gb230) (o := .cells #[.bool a0_0, .slice Ao3 l0_1.length co3, .int .i64 a0_2] 32 (0, 0)) (by (with_reducible repeat (first | refine blk_drewN ?_ _ | refine blk_drew ?_ | refine blk_alloc ?_ _)); exact BK230.out) hb); have n2_ := Aside0.mk (Kept.below (S := (fun k_ => P0_1_ k_)) (by repeat (first | (with_reducible first | exact HK.out | apply Kept.alloc | apply Kept.drewN | apply Kept.drew | refine Kept.setCell ?_ (.inr GW230.out) _) | exact HK.out)) hb); have n3_ := Aside0.mk (below_step (by repeat (first | (with_reducible first | exact HB.out | apply below_alloc | apply pw_below_drewN | apply below_drew1 | refine below_set ?_ GE230.out) | exact HB.out)) hb); have n4_ := Aside0.mk (hbox); have n5_ := Aside0.mk ((by rw [hg]; exact (by first | exact HK.out.1 | exact (show Kept w _ (fun k_ => P0_1_ k_) from by repeat (first | (with_reducible first | exact HK.out | apply Kept.alloc | apply Kept.drewN | apply Kept.drew | refine Kept.setCell ?_ (.inr GW230.out) _) | exact HK.out)).1) : w.heap.size ≤ gb231)); have n6_ := Aside0.mk ((by rw [hg]; exact (below_size (by repeat (first | (with_reducible first | exact HB.out | apply below_alloc | apply pw_below_drewN | apply below_drew1 | refine below_set ?_ GE230.out) | exact HB.out))) : w0.heap.size ≤ gb231)); have n7_ := Aside0.mk ((by rw [hg]; exact Nat.ne_of_lt (blk_lt (g := gb230) (o := .cells #[.bool a0_0, .slice Ao3 l0_1.length co3, .int .i64 a0_2] 32 (0, 0)) (by (with_reducible repeat (first | refine blk_drewN ?_ _ | refine blk_drew ?_ | refine blk_alloc ?_ _)); exact BK230.out)) : gb230 ≠ gb231)); have n8_ := Aside0.mk ((by rw [hg]; exact Nat.ne_of_gt (blk_lt (g := gb230) (o := .cells #[.bool a0_0, .slice Ao3 l0_1.length co3, .int .i64 a0_2] 32 (0, 0)) (by (with_reducible repeat (first | refine blk_drewN ?_ _ | refine blk_drew ?_ | refine blk_alloc ?_ _)); exact BK230.out)) : gb231 ≠ gb230)); clear HO0_1; clear BK230; clear HK; clear HB; have HO0_1 := n0_; have BK230 := n1_; have HK := n2_; have HB := n3_; have BK231 := n4_; have GW231 := n5_; have GE231 := n6_; have NB230_231 := n7_; have NB231_230 := n8_; clear n0_ n1_ n2_ n3_ n4_ n5_ n6_ n7_ n8_; clear hb hbox hg; have hnb6 := NB230_231.out; have hnc6 := NB231_230.out; have hcz7_0 : w5.cell? ⟨gb230, 0, none⟩ = some (.bool a0_0) := (blk_cell BK230.out 0).trans rfl; have hcz7_1 : w5.cell? ⟨gb230, 1, none⟩ = some (.slice Ao3 l0_1.length co3) := (blk_cell BK230.out 1).trans rfl; have hcz7_2 : w5.cell? ⟨gb230, 2, none⟩ = some (.int .i64 a0_2) := (blk_cell BK230.out 2).trans rfl; have hfz7_0 := blk_frozen BK230.out 0; have hfz7_1 := blk_frozen BK230.out 1; have hfz7_2 := blk_frozen BK230.out 2; have hcz8_0 : w5.cell? ⟨gb231, 0, none⟩ = some (.bool false) := (blk_cell BK231.out 0).trans rfl; have hcz8_1 : w5.cell? ⟨gb231, 1, none⟩ = some (.slice none 0 0) := (blk_cell BK231.out 1).trans rfl; have hcz8_2 : w5.cell? ⟨gb231, 2, none⟩ = some (.int .i64 0) := (blk_cell BK231.out 2).trans rfl; have hfz8_0 := blk_frozen BK231.out 0; have hfz8_1 := blk_frozen BK231.out 1; have hfz8_2 := blk_frozen BK231.out 2))
    refine bodyPost_ret (results_cell_row rfl _ _ gb231 32 #[.bool (!a0_0), .slice Ao3 l0_1.length co3, .int .i64 a0_2] (0, 0) _ rfl (by (with_reducible repeat (first | refine blk_drewN ?_ _ | refine blk_drew ?_ | refine blk_alloc ?_ _)); refine blk_put (cs := #[.bool (!a0_0), .slice Ao3 l0_1.length co3, .int .i64 0]) ?_ 2 _ rfl; (with_reducible repeat (first | refine blk_drewN ?_ _ | refine blk_drew ?_ | refine blk_alloc ?_ _)); refine blk_put (cs := #[.bool (!a0_0), .slice none 0 0, .int .i64 0]) ?_ 1 _ rfl; (with_reducible repeat (first | refine blk_drewN ?_ _ | refine blk_drew ?_ | refine blk_alloc ?_ _)); refine blk_put (cs := #[.bool false, .slice none 0 0, .int .i64 0]) ?_ 0 _ rfl; (with_reducible repeat (first | refine blk_drewN ?_ _ | refine blk_drew ?_ | refine blk_alloc ?_ _)); refine blk_far ?_ NB231_230.out _; (with_reducible repeat (first | refine blk_drewN ?_ _ | refine blk_drew ?_ | refine blk_alloc ?_ _)); exact BK231.out) Try.underlying32 rfl (by kernel_rfl)) rfl ?_
    exact ⟨_, by first | rfl | (simp [errW_none, errW_some] <;> rfl) | (simp [*, errW_none, errW_some] <;> rfl), by (with_reducible repeat (first | apply Kd.R_alloc | apply Kd.R_drewN | apply Kd.R_drew)); exact Kd.R_mono (Kd.R_far (p := ⟨gb231, 2, none⟩) (Kd.R_far (p := ⟨gb231, 1, none⟩) (Kd.R_far (p := ⟨gb231, 0, none⟩) (Kd.R_far (p := ⟨gb230, 0, none⟩) (Kd.R_types (Kd.R_types HO0_1.out BK230.out (by decide)) BK231.out (by decide)) (fun _ hk => hk.1.2) (.bool (!a0_0))) (fun _ hk => hk.2) (.bool (!a0_0))) (fun _ hk => hk.2) (.slice Ao3 l0_1.length co3)) (fun _ hk => hk.2) (.int .i64 a0_2)) (fun _ hk => hk.1.1), by repeat (first | (with_reducible first | exact HB.out | apply below_alloc | apply pw_below_drewN | apply below_drew1 | refine below_set ?_ GE230.out | refine below_set ?_ GE231.out) | exact HB.out), by repeat (first | (with_reducible first | exact HK.out | apply Kept.alloc | apply Kept.drewN | apply Kept.drew | refine Kept.setCell ?_ (.inr GW230.out) _ | refine Kept.setCell ?_ (.inr GW231.out) _) | exact HK.out)⟩
  · rw [if_neg c2] at H
    have c2b0 : decide (0 < (l0_1.length : Int)) = false := decide_eq_false c2
    have c2b1 : decide (0 < l0_1.length) = false := decide_eq_false (by omega)
    clear c2
    simp only [Option.some.injEq, Prod.mk.injEq] at H
    obtain ⟨rfl, rfl, rfl⟩ := H
    obtain ⟨Ao9, co9, eo9⟩ := Kd.R_slice HO0_1.out
    subst eo9
    go_enter Try.func11, Try.ntmps11
    go_wp2_with (first | ((with_reducible refine gate_dst (N := 1) rfl ?_); refine box_event ?hg (N := 1) ?hd (cs := #[.bool a0_0, .slice Ao9 l0_1.length co9, .int .i64 a0_2]) (t := 32) ?hr ?_; (case hd => rfl); (case hg => rfl); (case hr => first | (go_simp; done) | (go_simp; rfl)); intro gb230 hg w10 hbox hb; have n0_ := Aside0.mk (Kd.R_below (by (with_reducible repeat (first | apply Kd.R_alloc | apply Kd.R_drewN | apply Kd.R_drew)); exact HO0_1.out) hb); have n1_ := Aside0.mk (Kept.below (S := (fun k_ => P0_1_ k_)) (by repeat (first | (with_reducible first | exact HK.out | apply Kept.alloc | apply Kept.drewN | apply Kept.drew) | exact HK.out)) hb); have n2_ := Aside0.mk (below_step (by repeat (first | (with_reducible first | exact HB.out | apply below_alloc | apply pw_below_drewN | apply below_drew1) | exact HB.out)) hb); have n3_ := Aside0.mk (hbox); have n4_ := Aside0.mk ((by rw [hg]; exact (by first | exact HK.out.1 | exact (show Kept w _ (fun k_ => P0_1_ k_) from by repeat (first | (with_reducible first | exact HK.out | apply Kept.alloc | apply Kept.drewN | apply Kept.drew) | exact HK.out)).1) : w.heap.size ≤ gb230)); have n5_ := Aside0.mk ((by rw [hg]; exact (below_size (by repeat (first | (with_reducible first | exact HB.out | apply below_alloc | apply pw_below_drewN | apply below_drew1) | exact HB.out))) : w0.heap.size ≤ gb230)); clear HO0_1; clear HK; clear HB; have HO0_1 := n0_; have HK := n1_; have HB := n2_; have BK230 := n3_; have GW230 := n4_; have GE230 := n5_; clear n0_ n1_ n2_ n3_ n4_ n5_; clear hb hbox hg) | ((with_reducible refine gate_dst (N := 2) rfl ?_); refine box_event ?hg (N := 2) ?hd (cs := #[.bool false, .slice none 0 0, .int .i64 0]) (t := 32) ?hr ?_; (case hd => rfl); (case hg => rfl); (case hr => first | (go_simp; done) | (go_simp; rfl)); intro gb231 hg w11 hbox hb; have n0_ := Aside0.mk (Kd.R_below (by (with_reducible repeat (first | apply Kd.R_alloc | apply Kd.R_drewN | apply Kd.R_drew)); exact HO0_1.out) hb); have n1_ := Aside0.mk (blk_below (g := gb230) (o := .cells #[.bool a0_0, .slice Ao9 l0_1.length co9, .int .i64 a0_2] 32 (0, 0)) (by (with_reducible repeat (first | refine blk_drewN ?_ _ | refine blk_drew ?_ | refine blk_alloc ?_ _)); exact BK230.out) hb); have n2_ := Aside0.mk (Kept.below (S := (fun k_ => P0_1_ k_)) (by repeat (first | (with_reducible first | exact HK.out | apply Kept.alloc | apply Kept.drewN | apply Kept.drew | refine Kept.setCell ?_ (.inr GW230.out) _) | exact HK.out)) hb); have n3_ := Aside0.mk (below_step (by repeat (first | (with_reducible first | exact HB.out | apply below_alloc | apply pw_below_drewN | apply below_drew1 | refine below_set ?_ GE230.out) | exact HB.out)) hb); have n4_ := Aside0.mk (hbox); have n5_ := Aside0.mk ((by rw [hg]; exact (by first | exact HK.out.1 | exact (show Kept w _ (fun k_ => P0_1_ k_) from by repeat (first | (with_reducible first | exact HK.out | apply Kept.alloc | apply Kept.drewN | apply Kept.drew | refine Kept.setCell ?_ (.inr GW230.out) _) | exact HK.out)).1) : w.heap.size ≤ gb231)); have n6_ := Aside0.mk ((by rw [hg]; exact (below_size (by repeat (first | (with_reducible first | exact HB.out | apply below_alloc | apply pw_below_drewN | apply below_drew1 | refine below_set ?_ GE230.out) | exact HB.out))) : w0.heap.size ≤ gb231)); have n7_ := Aside0.mk ((by rw [hg]; exact Nat.ne_of_lt (blk_lt (g := gb230) (o := .cells #[.bool a0_0, .slice Ao9 l0_1.length co9, .int .i64 a0_2] 32 (0, 0)) (by (with_reducible repeat (first | refine blk_drewN ?_ _ | refine blk_drew ?_ | refine blk_alloc ?_ _)); exact BK230.out)) : gb230 ≠ gb231)); have n8_ := Aside0.mk ((by rw [hg]; exact Nat.ne_of_gt (blk_lt (g := gb230) (o := .cells #[.bool a0_0, .slice Ao9 l0_1.length co9, .int .i64 a0_2] 32 (0, 0)) (by (with_reducible repeat (first | refine blk_drewN ?_ _ | refine blk_drew ?_ | refine blk_alloc ?_ _)); exact BK230.out)) : gb231 ≠ gb230)); clear HO0_1; clear BK230; clear HK; clear HB; have HO0_1 := n0_; have BK230 := n1_; have HK := n2_; have HB := n3_; have BK231 := n4_; have GW231 := n5_; have GE231 := n6_; have NB230_231 := n7_; have NB231_230 := n8_; clear n0_ n1_ n2_ n3_ n4_ n5_ n6_ n7_ n8_; clear hb hbox hg; have hnb12 := NB230_231.out; have hnc12 := NB231_230.out; have hcz13_0 : w11.cell? ⟨gb230, 0, none⟩ = some (.bool a0_0) := (blk_cell BK230.out 0).trans rfl; have hcz13_1 : w11.cell? ⟨gb230, 1, none⟩ = some (.slice Ao9 l0_1.length co9) := (blk_cell BK230.out 1).trans rfl; have hcz13_2 : w11.cell? ⟨gb230, 2, none⟩ = some (.int .i64 a0_2) := (blk_cell BK230.out 2).trans rfl; have hfz13_0 := blk_frozen BK230.out 0; have hfz13_1 := blk_frozen BK230.out 1; have hfz13_2 := blk_frozen BK230.out 2; have hcz14_0 : w11.cell? ⟨gb231, 0, none⟩ = some (.bool false) := (blk_cell BK231.out 0).trans rfl; have hcz14_1 : w11.cell? ⟨gb231, 1, none⟩ = some (.slice none 0 0) := (blk_cell BK231.out 1).trans rfl; have hcz14_2 : w11.cell? ⟨gb231, 2, none⟩ = some (.int .i64 0) := (blk_cell BK231.out 2).trans rfl; have hfz14_0 := blk_frozen BK231.out 0; have hfz14_1 := blk_frozen BK231.out 1; have hfz14_2 := blk_frozen BK231.out 2))
    refine bodyPost_ret (results_cell_row rfl _ _ gb231 32 #[.bool a0_0, .slice Ao9 l0_1.length co9, .int .i64 a0_2] (0, 0) _ rfl (by (with_reducible repeat (first | refine blk_drewN ?_ _ | refine blk_drew ?_ | refine blk_alloc ?_ _)); refine blk_put (cs := #[.bool a0_0, .slice Ao9 l0_1.length co9, .int .i64 0]) ?_ 2 _ rfl; (with_reducible repeat (first | refine blk_drewN ?_ _ | refine blk_drew ?_ | refine blk_alloc ?_ _)); refine blk_put (cs := #[.bool a0_0, .slice none 0 0, .int .i64 0]) ?_ 1 _ rfl; (with_reducible repeat (first | refine blk_drewN ?_ _ | refine blk_drew ?_ | refine blk_alloc ?_ _)); refine blk_put (cs := #[.bool false, .slice none 0 0, .int .i64 0]) ?_ 0 _ rfl; (with_reducible repeat (first | refine blk_drewN ?_ _ | refine blk_drew ?_ | refine blk_alloc ?_ _)); exact BK231.out) Try.underlying32 rfl (by kernel_rfl)) rfl ?_
    exact ⟨_, by first | rfl | (simp [errW_none, errW_some] <;> rfl) | (simp [*, errW_none, errW_some] <;> rfl), by (with_reducible repeat (first | apply Kd.R_alloc | apply Kd.R_drewN | apply Kd.R_drew)); exact Kd.R_mono (Kd.R_far (p := ⟨gb231, 2, none⟩) (Kd.R_far (p := ⟨gb231, 1, none⟩) (Kd.R_far (p := ⟨gb231, 0, none⟩) (Kd.R_types HO0_1.out BK231.out (by decide)) (fun _ hk => hk.2) (.bool a0_0)) (fun _ hk => hk.2) (.slice Ao9 l0_1.length co9)) (fun _ hk => hk.2) (.int .i64 a0_2)) (fun _ hk => hk.1), by repeat (first | (with_reducible first | exact HB.out | apply below_alloc | apply pw_below_drewN | apply below_drew1 | refine below_set ?_ GE230.out | refine below_set ?_ GE231.out) | exact HB.out), by repeat (first | (with_reducible first | exact HK.out | apply Kept.alloc | apply Kept.drewN | apply Kept.drew | refine Kept.setCell ?_ (.inr GW230.out) _ | refine Kept.setCell ?_ (.inr GW231.out) _) | exact HK.out)⟩

/-! ### spec_DecimalSign: function 31 -/
def spec_DecimalSign.f (a0_0 : Bool) (l0_1 : List Int) (a0_2 : Int) : Option (Int) := if (l0_1.length : Int) = 0 then (some 0) else (if a0_0 = true then (some (-1)) else (some 1))
set_option maxHeartbeats 8000000 in
set_option maxRecDepth 100000 in
theorem spec_DecimalSign.calls (a0_0 : Bool) (A0_1 : Option Addr) (c0_1 : Nat) (l0_1 : List Int) (a0_2 : Int) (r : Int) (w : World) (hr0_1 : Kd.C (Kd.int .i64) w A0_1 l0_1.length l0_1) (hc0_1 : l0_1.length ≤ c0_1) (h : spec_DecimalSign.f a0_0 l0_1 a0_2 = some r) :
    Calls Try.prog 31 #[.agg #[.bool a0_0, .slice A0_1 l0_1.length c0_1, .int .i64 a0_2]] w fun e w' => e = .returned (.int .i64 r) ∧ Below w.heap.size w w' := by
  have hu32 := Try.underlying32
  have HR0_1 := Aside0.mk hr0_1
  have HC0_1 := Aside0.mk hc0_1
  clear hr0_1 hc0_1
  have HB := Aside0.mk (Below.refl w.heap.size w)
  have H : (if (l0_1.length : Int) = 0 then (some 0) else (if a0_0 = true then (some (-1)) else (some 1))) = some r := h
  clear h
  by_cases c2 : (l0_1.length : Int) = 0
  · rw [if_pos c2] at H
    have c2b0 : ((l0_1.length : Int) == 0) = true := beq_iff_eq.mpr c2
    have c2b1 : ((l0_1.length : Int) != 0) = false := bne_eq_false_iff_eq.mpr c2
    clear c2
    obtain rfl := Option.some.inj H
    go_enter Try.func31, Try.ntmps31
    go_wp2_with (first | ((with_reducible refine gate_dst (N := 1) rfl ?_); refine box_event ?hg (N := 1) ?hd (cs := #[.bool a0_0, .slice A0_1 l0_1.length c0_1, .int .i64 a0_2]) (t := 32) ?hr ?_; (case hd => rfl); (case hg => rfl); (case hr => first | (go_simp; done) | (go_simp; rfl)); intro gb232 hg w3 hbox hb; have n0_ := Aside0.mk (below_step (by repeat (first | (with_reducible first | exact HB.out | apply below_alloc | apply pw_below_drewN | apply below_drew1) | exact HB.out)) hb); have n1_ := Aside0.mk (hbox); have n2_ := Aside0.mk ((by rw [hg]; exact (below_size (by repeat (first | (with_reducible first | exact HB.out | apply below_alloc | apply pw_below_drewN | apply below_drew1) | exact HB.out))) : w.heap.size ≤ gb232)); have n3_ := Aside0.mk ((by rw [hg]; exact (below_size (by repeat (first | (with_reducible first | exact HB.out | apply below_alloc | apply pw_below_drewN | apply below_drew1) | exact HB.out))) : w.heap.size ≤ gb232)); clear HB; have HB := n0_; have BK232 := n1_; have GW232 := n2_; have GE232 := n3_; clear n0_ n1_ n2_ n3_; clear hb hbox hg; have hcz4_0 : w3.cell? ⟨gb232, 0, none⟩ = some (.bool a0_0) := (blk_cell BK232.out 0).trans rfl; have hcz4_1 : w3.cell? ⟨gb232, 1, none⟩ = some (.slice A0_1 l0_1.length c0_1) := (blk_cell BK232.out 1).trans rfl; have hcz4_2 : w3.cell? ⟨gb232, 2, none⟩ = some (.int .i64 a0_2) := (blk_cell BK232.out 2).trans rfl; have hfz4_0 := blk_frozen BK232.out 0; have hfz4_1 := blk_frozen BK232.out 1; have hfz4_2 := blk_frozen BK232.out 2))
    go_ret
    exact ⟨by first | rfl | (simp [errW_none, errW_some] <;> rfl) | (simp [*, errW_none, errW_some] <;> rfl), by repeat (first | (with_reducible first | exact HB.out | apply below_alloc | apply pw_below_drewN | apply below_drew1 | refine below_set ?_ GE232.out) | exact HB.out)⟩
  · rw [if_neg c2] at H
    have c2b0 : ((l0_1.length : Int) == 0) = false := beq_eq_false_iff_ne.mpr c2
    have c2b1 : ((l0_1.length : Int) != 0) = true := bne_iff_ne.mpr c2
    have c2b2 : ¬ (l0_1 = []) := fun h_ => c2 (by rw [h_]; rfl)
    by_cases c5 : a0_0 = true
    · subst c5
      have H1 : (some (-1)) = some r := by rw [if_pos rfl] at H; exact H
      clear H
      have H := H1
      clear H1
      obtain rfl := Option.some.inj H
      go_enter Try.func31, Try.ntmps31
      go_wp2_with (first | ((with_reducible refine gate_dst (N := 1) rfl ?_); refine box_event ?hg (N := 1) ?hd (cs := #[.bool true, .slice A0_1 l0_1.length c0_1, .int .i64 a0_2]) (t := 32) ?hr ?_; (case hd => rfl); (case hg => rfl); (case hr => first | (go_simp; done) | (go_simp; rfl)); intro gb232 hg w6 hbox hb; have n0_ := Aside0.mk (below_step (by repeat (first | (with_reducible first | exact HB.out | apply below_alloc | apply pw_below_drewN | apply below_drew1) | exact HB.out)) hb); have n1_ := Aside0.mk (hbox); have n2_ := Aside0.mk ((by rw [hg]; exact (below_size (by repeat (first | (with_reducible first | exact HB.out | apply below_alloc | apply pw_below_drewN | apply below_drew1) | exact HB.out))) : w.heap.size ≤ gb232)); have n3_ := Aside0.mk ((by rw [hg]; exact (below_size (by repeat (first | (with_reducible first | exact HB.out | apply below_alloc | apply pw_below_drewN | apply below_drew1) | exact HB.out))) : w.heap.size ≤ gb232)); clear HB; have HB := n0_; have BK232 := n1_; have GW232 := n2_; have GE232 := n3_; clear n0_ n1_ n2_ n3_; clear hb hbox hg; have hcz7_0 : w6.cell? ⟨gb232, 0, none⟩ = some (.bool true) := (blk_cell BK232.out 0).trans rfl; have hcz7_1 : w6.cell? ⟨gb232, 1, none⟩ = some (.slice A0_1 l0_1.length c0_1) := (blk_cell BK232.out 1).trans rfl; have hcz7_2 : w6.cell? ⟨gb232, 2, none⟩ = some (.int .i64 a0_2) := (blk_cell BK232.out 2).trans rfl; have hfz7_0 := blk_frozen BK232.out 0; have hfz7_1 := blk_frozen BK232.out 1; have hfz7_2 := blk_frozen BK232.out 2))
      go_ret
      exact ⟨by first | rfl | (simp [errW_none, errW_some] <;> rfl) | (simp [*, errW_none, errW_some] <;> rfl), by repeat (first | (with_reducible first | exact HB.out | apply below_alloc | apply pw_below_drewN | apply below_drew1 | refine below_set ?_ GE232.out) | exact HB.out)⟩
    · replace c5 := Bool.eq_false_iff.mpr c5
      subst c5
      have H1 : (some 1) = some r := by rw [if_neg (show ¬ (false = true) by decide)] at H; exact H
      clear H
      have H := H1
      clear H1
      obtain rfl := Option.some.inj H
      go_enter Try.func31, Try.ntmps31
      go_wp2_with (first | ((with_reducible refine gate_dst (N := 1) rfl ?_); refine box_event ?hg (N := 1) ?hd (cs := #[.bool false, .slice A0_1 l0_1.length c0_1, .int .i64 a0_2]) (t := 32) ?hr ?_; (case hd => rfl); (case hg => rfl); (case hr => first | (go_simp; done) | (go_simp; rfl)); intro gb232 hg w8 hbox hb; have n0_ := Aside0.mk (below_step (by repeat (first | (with_reducible first | exact HB.out | apply below_alloc | apply pw_below_drewN | apply below_drew1) | exact HB.out)) hb); have n1_ := Aside0.mk (hbox); have n2_ := Aside0.mk ((by rw [hg]; exact (below_size (by repeat (first | (with_reducible first | exact HB.out | apply below_alloc | apply pw_below_drewN | apply below_drew1) | exact HB.out))) : w.heap.size ≤ gb232)); have n3_ := Aside0.mk ((by rw [hg]; exact (below_size (by repeat (first | (with_reducible first | exact HB.out | apply below_alloc | apply pw_below_drewN | apply below_drew1) | exact HB.out))) : w.heap.size ≤ gb232)); clear HB; have HB := n0_; have BK232 := n1_; have GW232 := n2_; have GE232 := n3_; clear n0_ n1_ n2_ n3_; clear hb hbox hg; have hcz9_0 : w8.cell? ⟨gb232, 0, none⟩ = some (.bool false) := (blk_cell BK232.out 0).trans rfl; have hcz9_1 : w8.cell? ⟨gb232, 1, none⟩ = some (.slice A0_1 l0_1.length c0_1) := (blk_cell BK232.out 1).trans rfl; have hcz9_2 : w8.cell? ⟨gb232, 2, none⟩ = some (.int .i64 a0_2) := (blk_cell BK232.out 2).trans rfl; have hfz9_0 := blk_frozen BK232.out 0; have hfz9_1 := blk_frozen BK232.out 1; have hfz9_2 := blk_frozen BK232.out 2))
      go_ret
      exact ⟨by first | rfl | (simp [errW_none, errW_some] <;> rfl) | (simp [*, errW_none, errW_some] <;> rfl), by repeat (first | (with_reducible first | exact HB.out | apply below_alloc | apply pw_below_drewN | apply below_drew1 | refine below_set ?_ GE232.out) | exact HB.out)⟩

/-! ### spec_DecimalCmp: function 26 -/
def spec_DecimalCmp.j0 : Nat → Int → Int → Bool → Bool → List Int → Int → Bool → List Int → Int → Option (Int)
  | 0, _, _, _, _, _, _, _, _, _ => none
  | k + 1, x5, x6, x11, x234000, x234001, x234002, x235000, x235001, x235002 => if x11 = true then (some (-1)) else (if x5 = x6 then (if x5 < 0 then ((spec_larger.f k x234000 x234001 x234002 x235000 x235001 x235002).bind fun t237 => (some (wrap64 (-t237)))) else (if x5 > 0 then ((spec_larger.f k x234000 x234001 x234002 x235000 x235001 x235002).bind fun t238 => (some t238)) else (some 0))) else (some 1))
def spec_DecimalCmp.f (k : Nat) (a0_0 : Bool) (l0_1 : List Int) (a0_2 : Int) (a1_0 : Bool) (l1_1 : List Int) (a1_2 : Int) : Option (Int) := (spec_DecimalSign.f a0_0 l0_1 a0_2).bind fun t235 => ((spec_DecimalSign.f a1_0 l1_1 a1_2).bind fun t236 => (if t235 = t236 then (spec_DecimalCmp.j0 k t235 t236 false a0_0 l0_1 a0_2 a1_0 l1_1 a1_2) else (spec_DecimalCmp.j0 k t235 t236 (decide (t235 < t236)) a0_0 l0_1 a0_2 a1_0 l1_1 a1_2)))
theorem spec_DecimalCmp.mono_l : ∀ k, (∀ y0 y1 y2 y3 y4 y5 y6 y7 y8, LeO (spec_DecimalCmp.j0 k y0 y1 y2 y3 y4 y5 y6 y7 y8) (spec_DecimalCmp.j0 (k + 1) y0 y1 y2 y3 y4 y5 y6 y7 y8))
  | 0 => fun _ _ _ _ _ _ _ _ _ r h => by simp [spec_DecimalCmp.j0] at h
  | k + 1 => by
    have ih0 := spec_DecimalCmp.mono_l k
    · intro y0 y1 y2 y3 y4 y5 y6 y7 y8
      unfold spec_DecimalCmp.j0
      repeat' first
      | (with_reducible exact ih0 _ _ _ _ _ _ _ _ _)
      | (with_reducible exact spec_larger.mono _ _ _ _ _ _ _)
      | (with_reducible exact LeO.refl _)
      | (with_reducible exact LeO.none _)
      | (with_reducible refine LeO.ite ?_ ?_)
      | (with_reducible refine LeO.bind ?_ (fun _ => ?_))
      | exact ih0 _ _ _ _ _ _ _ _ _
      | exact spec_larger.mono _ _ _ _ _ _ _
      | exact LeO.none _
      | refine LeO.ite ?_ ?_
      | refine LeO.bind ?_ (fun _ => ?_)
theorem spec_DecimalCmp.mono : ∀ a0 a1 a2 a3 a4 a5 k, LeO (spec_DecimalCmp.f k a0 a1 a2 a3 a4 a5) (spec_DecimalCmp.f (k + 1) a0 a1 a2 a3 a4 a5) := by
  intro a0 a1 a2 a3 a4 a5 k
  have ih0 := spec_DecimalCmp.mono_l k
  unfold spec_DecimalCmp.f
  repeat' first
      | (with_reducible exact ih0 _ _ _ _ _ _ _ _ _)
      | (with_reducible exact spec_larger.mono _ _ _ _ _ _ _)
      | (with_reducible exact LeO.refl _)
      | (with_reducible exact LeO.none _)
      | (with_reducible refine LeO.ite ?_ ?_)
      | (with_reducible refine LeO.bind ?_ (fun _ => ?_))
      | exact ih0 _ _ _ _ _ _ _ _ _
      | exact spec_larger.mono _ _ _ _ _ _ _
      | exact LeO.none _
      | refine LeO.ite ?_ ?_
      | refine LeO.bind ?_ (fun _ => ?_)
set_option maxHeartbeats 8000000 in
set_option maxRecDepth 100000 in
theorem spec_DecimalCmp.calls (k : Nat) (a0_0 : Bool) (A0_1 : Option Addr) (c0_1 : Nat) (l0_1 : List Int) (a0_2 : Int) (a1_0 : Bool) (A1_1 : Option Addr) (c1_1 : Nat) (l1_1 : List Int) (a1_2 : Int) (r : Int) (w : World) (hr0_1 : Kd.C (Kd.int .i64) w A0_1 l0_1.length l0_1) (hc0_1 : l0_1.length ≤ c0_1) (hr1_1 : Kd.C (Kd.int .i64) w A1_1 l1_1.length l1_1) (hc1_1 : l1_1.length ≤ c1_1) (h : spec_DecimalCmp.f k a0_0 l0_1 a0_2 a1_0 l1_1 a1_2 = some r) :
    Calls Try.prog 26 #[.agg #[.bool a0_0, .slice A0_1 l0_1.length c0_1, .int .i64 a0_2], .agg #[.bool a1_0, .slice A1_1 l1_1.length c1_1, .int .i64 a1_2]] w fun e w' => e = .returned (.int .i64 r) ∧ Below w.heap.size w w' := by
  have hu32 := Try.underlying32
  have HR0_1 := Aside0.mk hr0_1
  have HC0_1 := Aside0.mk hc0_1
  clear hr0_1 hc0_1
  have HR1_1 := Aside0.mk hr1_1
  have HC1_1 := Aside0.mk hc1_1
  clear hr1_1 hc1_1
  have HB := Aside0.mk (Below.refl w.heap.size w)
  have H : ((spec_DecimalSign.f a0_0 l0_1 a0_2).bind fun t235 => ((spec_DecimalSign.f a1_0 l1_1 a1_2).bind fun t236 => (if t235 = t236 then (spec_DecimalCmp.j0 k t235 t236 false a0_0 l0_1 a0_2 a1_0 l1_1 a1_2) else (spec_DecimalCmp.j0 k t235 t236 (decide (t235 < t236)) a0_0 l0_1 a0_2 a1_0 l1_1 a1_2)))) = some r := h
  clear h
  replace H := Option.bind_eq_some_iff.mp H
  obtain ⟨t235, A30, H⟩ := H
  replace H : ((spec_DecimalSign.f a1_0 l1_1 a1_2).bind fun t236 => (if t235 = t236 then (spec_DecimalCmp.j0 k t235 t236 false a0_0 l0_1 a0_2 a1_0 l1_1 a1_2) else (spec_DecimalCmp.j0 k t235 t236 (decide (t235 < t236)) a0_0 l0_1 a0_2 a1_0 l1_1 a1_2))) = some r := H
  have A3 := Aside0.mk A30
  clear A30
  replace H := Option.bind_eq_some_iff.mp H
  obtain ⟨t236, A40, H⟩ := H
  replace H : (if t235 = t236 then (spec_DecimalCmp.j0 k t235 t236 false a0_0 l0_1 a0_2 a1_0 l1_1 a1_2) else (spec_DecimalCmp.j0 k t235 t236 (decide (t235 < t236)) a0_0 l0_1 a0_2 a1_0 l1_1 a1_2)) = some r := H
  have A4 := Aside0.mk A40
  clear A40
  have HC5 := Aside0.mk H
  clear H
  go_enter Try.func26, Try.ntmps26
  try go_wp2_with (first | ((with_reducible refine gate_dst (N := 2) rfl ?_); refine box_event ?hg (N := 2) ?hd (cs := #[.bool a0_0, .slice A0_1 l0_1.length c0_1, .int .i64 a0_2]) (t := 32) ?hr ?_; (case hd => rfl); (case hg => rfl); (case hr => first | (go_simp; done) | (go_simp; rfl)); intro gb233 hg w6 hbox hb; have n0_ := Aside0.mk (below_step (by repeat (first | (with_reducible first | exact HB.out | apply below_alloc | apply pw_below_drewN | apply below_drew1) | exact HB.out)) hb); have n1_ := Aside0.mk (hbox); have n2_ := Aside0.mk ((by rw [hg]; exact (below_size (by repeat (first | (with_reducible first | exact HB.out | apply below_alloc | apply pw_below_drewN | apply below_drew1) | exact HB.out))) : w.heap.size ≤ gb233)); have n3_ := Aside0.mk ((by rw [hg]; exact (below_size (by repeat (first | (with_reducible first | exact HB.out | apply below_alloc | apply pw_below_drewN | apply below_drew1) | exact HB.out))) : w.heap.size ≤ gb233)); clear HB; have HB := n0_; have BK233 := n1_; have GW233 := n2_; have GE233 := n3_; clear n0_ n1_ n2_ n3_; clear hb hbox hg) | ((with_reducible refine gate_dst (N := 3) rfl ?_); refine box_event ?hg (N := 3) ?hd (cs := #[.bool a1_0, .slice A1_1 l1_1.length c1_1, .int .i64 a1_2]) (t := 32) ?hr ?_; (case hd => rfl); (case hg => rfl); (case hr => first | (go_simp; done) | (go_simp; rfl)); intro gb234 hg w7 hbox hb; have n0_ := Aside0.mk (blk_below (g := gb233) (o := .cells #[.bool a0_0, .slice A0_1 l0_1.length c0_1, .int .i64 a0_2] 32 (0, 0)) (by (with_reducible repeat (first | refine blk_drewN ?_ _ | refine blk_drew ?_ | refine blk_alloc ?_ _)); exact BK233.out) hb); have n1_ := Aside0.mk (below_step (by repeat (first | (with_reducible first | exact HB.out | apply below_alloc | apply pw_below_drewN | apply below_drew1 | refine below_set ?_ GE233.out) | exact HB.out)) hb); have n2_ := Aside0.mk (hbox); have n3_ := Aside0.mk ((by rw [hg]; exact (below_size (by repeat (first | (with_reducible first | exact HB.out | apply below_alloc | apply pw_below_drewN | apply below_drew1 | refine below_set ?_ GE233.out) | exact HB.out))) : w.heap.size ≤ gb234)); have n4_ := Aside0.mk ((by rw [hg]; exact (below_size (by repeat (first | (with_reducible first | exact HB.out | apply below_alloc | apply pw_below_drewN | apply below_drew1 | refine below_set ?_ GE233.out) | exact HB.out))) : w.heap.size ≤ gb234)); have n5_ := Aside0.mk ((by rw [hg]; exact Nat.ne_of_lt (blk_lt (g := gb233) (o := .cells #[.bool a0_0, .slice A0_1 l0_1.length c0_1, .int .i64 a0_2] 32 (0, 0)) (by (with_reducible repeat (first | refine blk_drewN ?_ _ | refine blk_drew ?_ | refine blk_alloc ?_ _)); exact BK233.out)) : gb233 ≠ gb234)); have n6_ := Aside0.mk ((by rw [hg]; exact Nat.ne_of_gt (blk_lt (g := gb233) (o := .cells #[.bool a0_0, .slice A0_1 l0_1.length c0_1, .int .i64 a0_2] 32 (0, 0)) (by (with_reducible repeat (first | refine blk_drewN ?_ _ | refine blk_drew ?_ | refine blk_alloc ?_ _)); exact BK233.out)) : gb234 ≠ gb233)); clear BK233; clear HB; have BK233 := n0_; have HB := n1_; have BK234 := n2_; have GW234 := n3_; have GE234 := n4_; have NB233_234 := n5_; have NB234_233 := n6_; clear n0_ n1_ n2_ n3_ n4_ n5_ n6_; clear hb hbox hg))
  have n0_ := Aside0.mk (blk_drew BK233.out)
  have n1_ := Aside0.mk (blk_drew BK234.out)
  have n2_ := Aside0.mk (below_drew1 HB.out)
  clear BK233
  clear BK234
  clear HB
  have BK233 := n0_
  have BK234 := n1_
  have HB := n2_
  clear n0_ n1_ n2_
  refine start_ (n := 6) (S := fun w' => w'.cell? ⟨gb233, 0, none⟩ = some (.bool a0_0) ∧ w'.cell? ⟨gb233, 1, none⟩ = some (.slice A0_1 l0_1.length c0_1) ∧ w'.cell? ⟨gb233, 2, none⟩ = some (.int .i64 a0_2) ∧ w'.cell? ⟨gb234, 0, none⟩ = some (.bool a1_0) ∧ w'.cell? ⟨gb234, 1, none⟩ = some (.slice A1_1 l1_1.length c1_1) ∧ w'.cell? ⟨gb234, 2, none⟩ = some (.int .i64 a1_2)) (ds := []) #[false, false, false, false, false, false] (by kernel_rfl) rfl rfl ⟨(blk_cell BK233.out 0).trans rfl, (blk_cell BK233.out 1).trans rfl, (blk_cell BK233.out 2).trans rfl, (blk_cell BK234.out 0).trans rfl, (blk_cell BK234.out 1).trans rfl, (blk_cell BK234.out 2).trans rfl⟩ (fun hHeld => ?_)
  generalize w7.drew = w8 at BK233 BK234 HB hHeld ⊢
  refine take_ (i := 0) (N := some 7) (v := ?_) (a' := ?_) #[true, false, false, false, false, false] rfl rfl (by kernel_rfl) (fun _ _ _ h => h) (Or.inl ⟨by rfl, ?_⟩) hHeld ?_ ?_
  rotate_left
  · rintro w' ⟨s0, s1, s2, s3, s4, s5⟩
    go_simp
    with_reducible rfl
  rotate_left
  · simp only [Act.put, List.setIfInBounds_toArray, List.set_cons_zero, List.set_cons_succ, i64_w, i32_w]
    rfl
  refine take_ (i := 2) (N := some 9) (v := ?_) (a' := ?_) #[true, false, true, false, false, false] rfl rfl (by kernel_rfl) (fun _ _ _ h => h) (Or.inl ⟨by rfl, ?_⟩) hHeld ?_ ?_
  rotate_left
  · rintro w' ⟨s0, s1, s2, s3, s4, s5⟩
    go_simp
    with_reducible rfl
  rotate_left
  · simp only [Act.put, List.setIfInBounds_toArray, List.set_cons_zero, List.set_cons_succ, i64_w, i32_w]
    rfl
  refine one_ (i := 1) (N := some 8) #[true, true, true, false, false, false] rfl rfl (by kernel_rfl) (by decide) (fun K hK => ?_)
  refine goes_ Try.func31 (by kernel_rfl) rfl #[.agg #[.bool a0_0, .slice A0_1 l0_1.length c0_1, .int .i64 a0_2]] (by rfl) rfl rfl (by (try simp only [List.map_toArray, List.map_cons, List.map_nil]); first | done | rfl | (simp only [List.length_drop, List.length_take]; rfl)) ?_
  with_reducible refine (spec_DecimalSign.calls a0_0 _ _ l0_1 a0_2 t235 _ ?side1 ?side2 A3.out).mono ?_
  (case side1 => repeat (first | exact (Kd.C_below HR0_1.out HB.out) | (with_reducible refine Kd.C_alloc ?_ _) | (with_reducible refine Kd.C_drewN ?_ _) | (with_reducible refine Kd.C_drew ?_)))
  (case side2 => exact HC0_1.out)
  rintro e w9 ⟨rfl, hb⟩
  refine ⟨_, rfl, ?_⟩
  have n0_ := Aside0.mk (blk_below (g := gb233) (o := .cells #[.bool a0_0, .slice A0_1 l0_1.length c0_1, .int .i64 a0_2] 32 (0, 0)) (by (with_reducible repeat (first | refine blk_drewN ?_ _ | refine blk_drew ?_ | refine blk_alloc ?_ _)); exact BK233.out) hb)
  have n1_ := Aside0.mk (blk_below (g := gb234) (o := .cells #[.bool a1_0, .slice A1_1 l1_1.length c1_1, .int .i64 a1_2] 32 (0, 0)) (by (with_reducible repeat (first | refine blk_drewN ?_ _ | refine blk_drew ?_ | refine blk_alloc ?_ _)); exact BK234.out) hb)
  have n2_ := Aside0.mk (below_step (by repeat (first | (with_reducible first | exact HB.out | apply below_alloc | apply pw_below_drewN | apply below_drew1 | refine below_set ?_ GE233.out | refine below_set ?_ GE234.out) | exact HB.out)) hb)
  clear BK233
  clear BK234
  clear HB
  have BK233 := n0_
  have BK234 := n1_
  have HB := n2_
  clear n0_ n1_ n2_
  (try clear hb)
  (try clear hb2)
  (try clear hk)
  (try clear hi)
  refine hK.out _ _ ⟨(blk_cell BK233.out 0).trans rfl, (blk_cell BK233.out 1).trans rfl, (blk_cell BK233.out 2).trans rfl, (blk_cell BK234.out 0).trans rfl, (blk_cell BK234.out 1).trans rfl, (blk_cell BK234.out 2).trans rfl⟩ (fun hHeld => ?_)
  clear hK K
  refine norm_ (a' := ?_) ?_ ?_
  rotate_left
  · show Act.put _ (some 8) _ = _
    simp only [Act.put, List.setIfInBounds_toArray, List.set_cons_zero, List.set_cons_succ, i64_w, i32_w]
    rfl
  refine one_ (i := 3) (N := some 10) #[true, true, true, true, false, false] rfl rfl (by kernel_rfl) (by decide) (fun K hK => ?_)
  refine goes_ Try.func31 (by kernel_rfl) rfl #[.agg #[.bool a1_0, .slice A1_1 l1_1.length c1_1, .int .i64 a1_2]] (by rfl) rfl rfl (by (try simp only [List.map_toArray, List.map_cons, List.map_nil]); first | done | rfl | (simp only [List.length_drop, List.length_take]; rfl)) ?_
  with_reducible refine (spec_DecimalSign.calls a1_0 _ _ l1_1 a1_2 t236 _ ?side1 ?side2 A4.out).mono ?_
  (case side1 => repeat (first | exact (Kd.C_below HR1_1.out HB.out) | (with_reducible refine Kd.C_alloc ?_ _) | (with_reducible refine Kd.C_drewN ?_ _) | (with_reducible refine Kd.C_drew ?_)))
  (case side2 => exact HC1_1.out)
  rintro e w10 ⟨rfl, hb⟩
  refine ⟨_, rfl, ?_⟩
  have n0_ := Aside0.mk (blk_below (g := gb233) (o := .cells #[.bool a0_0, .slice A0_1 l0_1.length c0_1, .int .i64 a0_2] 32 (0, 0)) (by (with_reducible repeat (first | refine blk_drewN ?_ _ | refine blk_drew ?_ | refine blk_alloc ?_ _)); exact BK233.out) hb)
  have n1_ := Aside0.mk (blk_below (g := gb234) (o := .cells #[.bool a1_0, .slice A1_1 l1_1.length c1_1, .int .i64 a1_2] 32 (0, 0)) (by (with_reducible repeat (first | refine blk_drewN ?_ _ | refine blk_drew ?_ | refine blk_alloc ?_ _)); exact BK234.out) hb)
  have n2_ := Aside0.mk (below_step (by repeat (first | (with_reducible first | exact HB.out | apply below_alloc | apply pw_below_drewN | apply below_drew1 | refine below_set ?_ GE233.out | refine below_set ?_ GE234.out) | exact HB.out)) hb)
  clear BK233
  clear BK234
  clear HB
  have BK233 := n0_
  have BK234 := n1_
  have HB := n2_
  clear n0_ n1_ n2_
  (try clear hb)
  (try clear hb2)
  (try clear hk)
  (try clear hi)
  refine hK.out _ _ ⟨(blk_cell BK233.out 0).trans rfl, (blk_cell BK233.out 1).trans rfl, (blk_cell BK233.out 2).trans rfl, (blk_cell BK234.out 0).trans rfl, (blk_cell BK234.out 1).trans rfl, (blk_cell BK234.out 2).trans rfl⟩ (fun hHeld => ?_)
  clear hK K
  refine norm_ (a' := ?_) ?_ ?_
  rotate_left
  · show Act.put _ (some 10) _ = _
    simp only [Act.put, List.setIfInBounds_toArray, List.set_cons_zero, List.set_cons_succ, i64_w, i32_w]
    rfl
  refine pure_ (i := 4) (N := some 5) (v := ?_) (a' := ?_) #[true, true, true, true, true, false] rfl rfl (by kernel_rfl) (fun _ _ _ h => h) (Or.inl ⟨by rfl, ?_⟩) ?_ ?_
  rotate_left
  · intro w'
    go_simp
    with_reducible rfl
  rotate_left
  · simp only [Act.put, List.setIfInBounds_toArray, List.set_cons_zero, List.set_cons_succ, i64_w, i32_w]
    rfl
  refine pure_ (i := 5) (N := some 6) (v := ?_) (a' := ?_) #[true, true, true, true, true, true] rfl rfl (by kernel_rfl) (fun _ _ _ h => h) (Or.inl ⟨by rfl, ?_⟩) ?_ ?_
  rotate_left
  · intro w'
    go_simp
    with_reducible rfl
  rotate_left
  · simp only [Act.put, List.setIfInBounds_toArray, List.set_cons_zero, List.set_cons_succ, i64_w, i32_w]
    rfl
  refine done_ (by kernel_rfl) ?_
  go_upto_region 2 with (fail)
  go_cut [11] (fun v11 wc => ∃ (kq : Nat) (x11_4 : Bool), v11 = .bool x11_4 ∧ Aside0 (spec_DecimalCmp.j0 kq t235 t236 x11_4 a0_0 l0_1 a0_2 a1_0 l1_1 a1_2 = some r) ∧ Aside0 (kq ≤ k) ∧ Aside0 (wc.heap[gb233]? = some (.cells #[.bool a0_0, (.slice A0_1 l0_1.length c0_1), .int .i64 a0_2] 32 (0, 0))) ∧ Aside0 (wc.heap[gb234]? = some (.cells #[.bool a1_0, (.slice A1_1 l1_1.length c1_1), .int .i64 a1_2] 32 (0, 0))) ∧ Aside0 (Below w.heap.size w wc))
  case first =>
    have H := HC5.out
    clear HC5
    by_cases c11 : t235 = t236
    · rw [if_pos c11] at H
      have c11b0 : (t235 == t236) = true := beq_iff_eq.mpr c11
      have c11b1 : (t235 != t236) = false := bne_eq_false_iff_eq.mpr c11
      clear c11
      (first | rw [c11b0] | (simp only [i64_w, i32_w]; rw [c11b0]) | skip)
      have H' := Aside0.mk H
      clear H
      go_wp2
      go_meet
      case rel => exact ⟨_, (false), (by first | rfl | (simp; done) | (simp [*]; done)), H', ⟨by first | omega | exact Nat.le_refl _⟩, ⟨by (with_reducible repeat (first | refine blk_drewN ?_ _ | refine blk_drew ?_ | refine blk_alloc ?_ _)); exact BK233.out⟩, ⟨by (with_reducible repeat (first | refine blk_drewN ?_ _ | refine blk_drew ?_ | refine blk_alloc ?_ _)); exact BK234.out⟩, ⟨by repeat (first | (with_reducible first | exact HB.out | apply below_alloc | apply pw_below_drewN | apply below_drew1 | refine below_set ?_ GE233.out | refine below_set ?_ GE234.out) | exact HB.out)⟩⟩
    · rw [if_neg c11] at H
      have c11b0 : (t235 == t236) = false := beq_eq_false_iff_ne.mpr c11
      have c11b1 : (t235 != t236) = true := bne_iff_ne.mpr c11
      (first | rw [c11b0] | (simp only [i64_w, i32_w]; rw [c11b0]) | skip)
      have H' := Aside0.mk H
      clear H
      go_wp2
      go_meet
      case rel => exact ⟨_, (decide (t235 < t236)), (by first | rfl | (simp; done) | (simp [*]; done)), H', ⟨by first | omega | exact Nat.le_refl _⟩, ⟨by (with_reducible repeat (first | refine blk_drewN ?_ _ | refine blk_drew ?_ | refine blk_alloc ?_ _)); exact BK233.out⟩, ⟨by (with_reducible repeat (first | refine blk_drewN ?_ _ | refine blk_drew ?_ | refine blk_alloc ?_ _)); exact BK234.out⟩, ⟨by repeat (first | (with_reducible first | exact HB.out | apply below_alloc | apply pw_below_drewN | apply below_drew1 | refine below_set ?_ GE233.out | refine below_set ?_ GE234.out) | exact HB.out)⟩⟩
  case rest =>
    clear HC5
    try clear c1
    try clear c2
    try clear p2
    try clear c3
    try clear c11
    try clear c11b0
    try clear c11b1
    obtain ⟨kq, x11_4, rfl, HA, HJ4, BK233, BK234, HB⟩ := hcut
    cases kq with
    | zero => exact absurd HA.out (by simp [spec_DecimalCmp.j0])
    | succ kj4 =>
      have H := HA.out
      clear HA
      simp only [spec_DecimalCmp.j0] at H
      by_cases c12 : x11_4 = true
      · subst c12
        have H1 : (some (-1)) = some r := by rw [if_pos rfl] at H; exact H
        clear H
        have H := H1
        clear H1
        obtain rfl := Option.some.inj H
        go_wp2
        go_ret
        exact ⟨by first | rfl | (simp [errW_none, errW_some] <;> rfl) | (simp [*, errW_none, errW_some] <;> rfl), by repeat (first | (with_reducible first | exact HB.out | apply below_alloc | apply pw_below_drewN | apply below_drew1 | refine below_set ?_ GE233.out | refine below_set ?_ GE234.out) | exact HB.out)⟩
      · replace c12 := Bool.eq_false_iff.mpr c12
        subst c12
        have H1 : (if t235 = t236 then (if t235 < 0 then ((spec_larger.f kj4 a0_0 l0_1 a0_2 a1_0 l1_1 a1_2).bind fun t237 => (some (wrap64 (-t237)))) else (if t235 > 0 then ((spec_larger.f kj4 a0_0 l0_1 a0_2 a1_0 l1_1 a1_2).bind fun t238 => (some t238)) else (some 0))) else (some 1)) = some r := by rw [if_neg (show ¬ (false = true) by decide)] at H; exact H
        clear H
        have H := H1
        clear H1
        by_cases c13 : t235 = t236
        · rw [if_pos c13] at H
          have c13b0 : (t235 == t236) = true := beq_iff_eq.mpr c13
          have c13b1 : (t235 != t236) = false := bne_eq_false_iff_eq.mpr c13
          clear c13
          by_cases c14 : t235 < 0
          · rw [if_pos c14] at H
            have c14b0 : decide (t235 < 0) = true := decide_eq_true c14
            clear c14
            replace H := Option.bind_eq_some_iff.mp H
            obtain ⟨t237, A150, H⟩ := H
            replace H : (some (wrap64 (-t237))) = some r := H
            have A15 := Aside0.mk A150
            clear A150
            obtain rfl := Option.some.inj H
            have hnb16 := NB233_234.out
            have hnc16 := NB234_233.out
            have hcz17_0 : wc.cell? ⟨gb233, 0, none⟩ = some (.bool a0_0) := (blk_cell BK233.out 0).trans rfl
            have hcz17_1 : wc.cell? ⟨gb233, 1, none⟩ = some (.slice A0_1 l0_1.length c0_1) := (blk_cell BK233.out 1).trans rfl
            have hcz17_2 : wc.cell? ⟨gb233, 2, none⟩ = some (.int .i64 a0_2) := (blk_cell BK233.out 2).trans rfl
            have hfz17_0 := blk_frozen BK233.out 0
            have hfz17_1 := blk_frozen BK233.out 1
            have hfz17_2 := blk_frozen BK233.out 2
            have hcz18_0 : wc.cell? ⟨gb234, 0, none⟩ = some (.bool a1_0) := (blk_cell BK234.out 0).trans rfl
            have hcz18_1 : wc.cell? ⟨gb234, 1, none⟩ = some (.slice A1_1 l1_1.length c1_1) := (blk_cell BK234.out 1).trans rfl
            have hcz18_2 : wc.cell? ⟨gb234, 2, none⟩ = some (.int .i64 a1_2) := (blk_cell BK234.out 2).trans rfl
            have hfz18_0 := blk_frozen BK234.out 0
            have hfz18_1 := blk_frozen BK234.out 1
            have hfz18_2 := blk_frozen BK234.out 2
            go_wp2_with (first | ((with_reducible refine gate_callee (f := 23) rfl ?_); refine goesL_ (some 29) rfl rfl Try.func23 (by kernel_rfl) rfl #[.agg #[.bool a0_0, .slice A0_1 l0_1.length c0_1, .int .i64 a0_2], .agg #[.bool a1_0, .slice A1_1 l1_1.length c1_1, .int .i64 a1_2]] rfl (by (try simp only [List.map_toArray, List.map_cons, List.map_nil]); first | done | rfl | (simp only [List.length_drop, List.length_take]; rfl)) ?_; (with_reducible refine (spec_larger.calls kj4 a0_0 _ _ l0_1 a0_2 a1_0 _ _ l1_1 a1_2 t237 _ ?side1 ?side2 ?side3 ?side4 A15.out).mono ?_); (case side1 => repeat (first | exact (Kd.C_below HR0_1.out HB.out) | (with_reducible refine Kd.C_alloc ?_ _) | (with_reducible refine Kd.C_drewN ?_ _) | (with_reducible refine Kd.C_drew ?_))); (case side2 => exact HC0_1.out); (case side3 => repeat (first | exact (Kd.C_below HR1_1.out HB.out) | (with_reducible refine Kd.C_alloc ?_ _) | (with_reducible refine Kd.C_drewN ?_ _) | (with_reducible refine Kd.C_drew ?_))); (case side4 => exact HC1_1.out); rintro e w19 ⟨rfl, hb⟩; refine ⟨_, rfl, ?_⟩; have n0_ := Aside0.mk (blk_below (g := gb233) (o := .cells #[.bool a0_0, .slice A0_1 l0_1.length c0_1, .int .i64 a0_2] 32 (0, 0)) (by (with_reducible repeat (first | refine blk_drewN ?_ _ | refine blk_drew ?_ | refine blk_alloc ?_ _)); exact BK233.out) hb); have n1_ := Aside0.mk (blk_below (g := gb234) (o := .cells #[.bool a1_0, .slice A1_1 l1_1.length c1_1, .int .i64 a1_2] 32 (0, 0)) (by (with_reducible repeat (first | refine blk_drewN ?_ _ | refine blk_drew ?_ | refine blk_alloc ?_ _)); exact BK234.out) hb); have n2_ := Aside0.mk (below_step (by repeat (first | (with_reducible first | exact HB.out | apply below_alloc | apply pw_below_drewN | apply below_drew1 | refine below_set ?_ GE233.out | refine below_set ?_ GE234.out) | exact HB.out)) hb); clear BK233; clear BK234; clear HB; have BK233 := n0_; have BK234 := n1_; have HB := n2_; clear n0_ n1_ n2_; (try clear hb); (try clear hb2); (try clear hk); (try clear hi)))
            go_ret
            exact ⟨by first | rfl | (simp [errW_none, errW_some] <;> rfl) | (simp [*, errW_none, errW_some] <;> rfl), by repeat (first | (with_reducible first | exact HB.out | apply below_alloc | apply pw_below_drewN | apply below_drew1 | refine below_set ?_ GE233.out | refine below_set ?_ GE234.out) | exact HB.out)⟩
          · rw [if_neg c14] at H
            have c14b0 : decide (t235 < 0) = false := decide_eq_false c14
            clear c14
            by_cases c20 : t235 > 0
            · rw [if_pos c20] at H
              have c20b0 : decide (0 < t235) = true := decide_eq_true c20
              clear c20
              replace H := Option.bind_eq_some_iff.mp H
              obtain ⟨t238, A210, H⟩ := H
              replace H : (some t238) = some r := H
              have A21 := Aside0.mk A210
              clear A210
              obtain rfl := Option.some.inj H
              have hnb22 := NB233_234.out
              have hnc22 := NB234_233.out
              have hcz23_0 : wc.cell? ⟨gb233, 0, none⟩ = some (.bool a0_0) := (blk_cell BK233.out 0).trans rfl
              have hcz23_1 : wc.cell? ⟨gb233, 1, none⟩ = some (.slice A0_1 l0_1.length c0_1) := (blk_cell BK233.out 1).trans rfl
              have hcz23_2 : wc.cell? ⟨gb233, 2, none⟩ = some (.int .i64 a0_2) := (blk_cell BK233.out 2).trans rfl
              have hfz23_0 := blk_frozen BK233.out 0
              have hfz23_1 := blk_frozen BK233.out 1
              have hfz23_2 := blk_frozen BK233.out 2
              have hcz24_0 : wc.cell? ⟨gb234, 0, none⟩ = some (.bool a1_0) := (blk_cell BK234.out 0).trans rfl
              have hcz24_1 : wc.cell? ⟨gb234, 1, none⟩ = some (.slice A1_1 l1_1.length c1_1) := (blk_cell BK234.out 1).trans rfl
              have hcz24_2 : wc.cell? ⟨gb234, 2, none⟩ = some (.int .i64 a1_2) := (blk_cell BK234.out 2).trans rfl
              have hfz24_0 := blk_frozen BK234.out 0
              have hfz24_1 := blk_frozen BK234.out 1
              have hfz24_2 := blk_frozen BK234.out 2
              go_wp2_with (first | ((with_reducible refine gate_callee (f := 23) rfl ?_); refine goesL_ (some 36) rfl rfl Try.func23 (by kernel_rfl) rfl #[.agg #[.bool a0_0, .slice A0_1 l0_1.length c0_1, .int .i64 a0_2], .agg #[.bool a1_0, .slice A1_1 l1_1.length c1_1, .int .i64 a1_2]] rfl (by (try simp only [List.map_toArray, List.map_cons, List.map_nil]); first | done | rfl | (simp only [List.length_drop, List.length_take]; rfl)) ?_; (with_reducible refine (spec_larger.calls kj4 a0_0 _ _ l0_1 a0_2 a1_0 _ _ l1_1 a1_2 t238 _ ?side1 ?side2 ?side3 ?side4 A21.out).mono ?_); (case side1 => repeat (first | exact (Kd.C_below HR0_1.out HB.out) | (with_reducible refine Kd.C_alloc ?_ _) | (with_reducible refine Kd.C_drewN ?_ _) | (with_reducible refine Kd.C_drew ?_))); (case side2 => exact HC0_1.out); (case side3 => repeat (first | exact (Kd.C_below HR1_1.out HB.out) | (with_reducible refine Kd.C_alloc ?_ _) | (with_reducible refine Kd.C_drewN ?_ _) | (with_reducible refine Kd.C_drew ?_))); (case side4 => exact HC1_1.out); rintro e w25 ⟨rfl, hb⟩; refine ⟨_, rfl, ?_⟩; have n0_ := Aside0.mk (blk_below (g := gb233) (o := .cells #[.bool a0_0, .slice A0_1 l0_1.length c0_1, .int .i64 a0_2] 32 (0, 0)) (by (with_reducible repeat (first | refine blk_drewN ?_ _ | refine blk_drew ?_ | refine blk_alloc ?_ _)); exact BK233.out) hb); have n1_ := Aside0.mk (blk_below (g := gb234) (o := .cells #[.bool a1_0, .slice A1_1 l1_1.length c1_1, .int .i64 a1_2] 32 (0, 0)) (by (with_reducible repeat (first | refine blk_drewN ?_ _ | refine blk_drew ?_ | refine blk_alloc ?_ _)); exact BK234.out) hb); have n2_ := Aside0.mk (below_step (by repeat (first | (with_reducible first | exact HB.out | apply below_alloc | apply pw_below_drewN | apply below_drew1 | refine below_set ?_ GE233.out | refine below_set ?_ GE234.out) | exact HB.out)) hb); clear BK233; clear BK234; clear HB; have BK233 := n0_; have BK234 := n1_; have HB := n2_; clear n0_ n1_ n2_; (try clear hb); (try clear hb2); (try clear hk); (try clear hi)))
              go_ret
              exact ⟨by first | rfl | (simp [errW_none, errW_some] <;> rfl) | (simp [*, errW_none, errW_some] <;> rfl), by repeat (first | (with_reducible first | exact HB.out | apply below_alloc | apply pw_below_drewN | apply below_drew1 | refine below_set ?_ GE233.out | refine below_set ?_ GE234.out) | exact HB.out)⟩
            · rw [if_neg c20] at H
              have c20b0 : decide (0 < t235) = false := decide_eq_false c20
              clear c20
              obtain rfl := Option.some.inj H
              go_wp2
              go_ret
              exact ⟨by first | rfl | (simp [errW_none, errW_some] <;> rfl) | (simp [*, errW_none, errW_some] <;> rfl), by repeat (first | (with_reducible first | exact HB.out | apply below_alloc | apply pw_below_drewN | apply below_drew1 | refine below_set ?_ GE233.out | refine below_set ?_ GE234.out) | exact HB.out)⟩
        · rw [if_neg c13] at H
          have c13b0 : (t235 == t236) = false := beq_eq_false_iff_ne.mpr c13
          have c13b1 : (t235 != t236) = true := bne_iff_ne.mpr c13
          obtain rfl := Option.some.inj H
          go_wp2
          go_ret
          exact ⟨by first | rfl | (simp [errW_none, errW_some] <;> rfl) | (simp [*, errW_none, errW_some] <;> rfl), by repeat (first | (with_reducible first | exact HB.out | apply below_alloc | apply pw_below_drewN | apply below_drew1 | refine below_set ?_ GE233.out | refine below_set ?_ GE234.out) | exact HB.out)⟩

/-! ### laws_amountIs: function 12 -/
def laws_amountIs.f (k : Nat) (a0_0 : Int) (a0_1 : Int) (a1_0 : Bool) (l1_1 : List Int) (a1_2 : Int) : Option (Bool) := (laws_amountOf.f k a0_0 a0_1).bind fun bt241 => (if bt241.2.2.2 = true then ((spec_DecimalCmp.f k bt241.1 bt241.2.1 bt241.2.2.1 a1_0 l1_1 a1_2).bind fun t248 => (some (t248 == 0))) else (some false))
theorem laws_amountIs.mono : ∀ a0 a1 a2 a3 a4 k, LeO (laws_amountIs.f k a0 a1 a2 a3 a4) (laws_amountIs.f (k + 1) a0 a1 a2 a3 a4) := by
  intro a0 a1 a2 a3 a4 k
  unfold laws_amountIs.f
  repeat' first
      | (with_reducible exact laws_amountOf.mono _ _ _)
      | (with_reducible exact spec_DecimalCmp.mono _ _ _ _ _ _ _)
      | (with_reducible exact LeO.refl _)
      | (with_reducible exact LeO.none _)
      | (with_reducible refine LeO.ite ?_ ?_)
      | (with_reducible refine LeO.bind ?_ (fun _ => ?_))
      | exact laws_amountOf.mono _ _ _
      | exact spec_DecimalCmp.mono _ _ _ _ _ _ _
      | exact LeO.none _
      | refine LeO.ite ?_ ?_
      | refine LeO.bind ?_ (fun _ => ?_)
set_option maxHeartbeats 8000000 in
set_option maxRecDepth 100000 in
theorem laws_amountIs.calls (k : Nat) (a0_0 : Int) (a0_1 : Int) (a1_0 : Bool) (A1_1 : Option Addr) (c1_1 : Nat) (l1_1 : List Int) (a1_2 : Int) (r : Bool) (w : World) (hr1_1 : Kd.C (Kd.int .i64) w A1_1 l1_1.length l1_1) (hc1_1 : l1_1.length ≤ c1_1) (h : laws_amountIs.f k a0_0 a0_1 a1_0 l1_1 a1_2 = some r) :
    Calls Try.prog 12 #[.agg #[.int .i64 a0_0, .int .i64 a0_1], .agg #[.bool a1_0, .slice A1_1 l1_1.length c1_1, .int .i64 a1_2]] w fun e w' => e = .returned (.bool r) ∧ Below w.heap.size w w' := by
  have hu29 := Try.underlying29
  have hu32 := Try.underlying32
  have HR1_1 := Aside0.mk hr1_1
  have HC1_1 := Aside0.mk hc1_1
  clear hr1_1 hc1_1
  have HB := Aside0.mk (Below.refl w.heap.size w)
  have H : ((laws_amountOf.f k a0_0 a0_1).bind fun bt241 => (if bt241.2.2.2 = true then ((spec_DecimalCmp.f k bt241.1 bt241.2.1 bt241.2.2.1 a1_0 l1_1 a1_2).bind fun t248 => (some (t248 == 0))) else (some false))) = some r := h
  clear h
  replace H := Option.bind_eq_some_iff.mp H
  obtain ⟨⟨t241, t242, t245, t246⟩, A30, H⟩ := H
  replace H : (if t246 = true then ((spec_DecimalCmp.f k t241 t242 t245 a1_0 l1_1 a1_2).bind fun t248 => (some (t248 == 0))) else (some false)) = some r := H
  have A3 := Aside0.mk A30
  clear A30
  by_cases c4 : t246 = true
  · subst c4
    have H1 : ((spec_DecimalCmp.f k t241 t242 t245 a1_0 l1_1 a1_2).bind fun t248 => (some (t248 == 0))) = some r := by rw [if_pos rfl] at H; exact H
    clear H
    have H := H1
    clear H1
    replace H := Option.bind_eq_some_iff.mp H
    obtain ⟨t248, A50, H⟩ := H
    replace H : (some (t248 == 0)) = some r := H
    have A5 := Aside0.mk A50
    clear A50
    obtain rfl := Option.some.inj H
    go_enter Try.func12, Try.ntmps12
    go_wp2_with (first | ((with_reducible refine gate_dst (N := 2) rfl ?_); refine box_event ?hg (N := 2) ?hd (cs := #[.int .i64 a0_0, .int .i64 a0_1]) (t := 29) ?hr ?_; (case hd => rfl); (case hg => rfl); (case hr => first | (go_simp; done) | (go_simp; rfl)); intro gb239 hg w6 hbox hb; have n0_ := Aside0.mk (below_step (by repeat (first | (with_reducible first | exact HB.out | apply below_alloc | apply pw_below_drewN | apply below_drew1) | exact HB.out)) hb); have n1_ := Aside0.mk (hbox); have n2_ := Aside0.mk ((by rw [hg]; exact (below_size (by repeat (first | (with_reducible first | exact HB.out | apply below_alloc | apply pw_below_drewN | apply below_drew1) | exact HB.out))) : w.heap.size ≤ gb239)); have n3_ := Aside0.mk ((by rw [hg]; exact (below_size (by repeat (first | (with_reducible first | exact HB.out | apply below_alloc | apply pw_below_drewN | apply below_drew1) | exact HB.out))) : w.heap.size ≤ gb239)); clear HB; have HB := n0_; have BK239 := n1_; have GW239 := n2_; have GE239 := n3_; clear n0_ n1_ n2_ n3_; clear hb hbox hg) | ((with_reducible refine gate_dst (N := 3) rfl ?_); refine box_event ?hg (N := 3) ?hd (cs := #[.bool a1_0, .slice A1_1 l1_1.length c1_1, .int .i64 a1_2]) (t := 32) ?hr ?_; (case hd => rfl); (case hg => rfl); (case hr => first | (go_simp; done) | (go_simp; rfl)); intro gb240 hg w7 hbox hb; have n0_ := Aside0.mk (blk_below (g := gb239) (o := .cells #[.int .i64 a0_0, .int .i64 a0_1] 29 (0, 0)) (by (with_reducible repeat (first | refine blk_drewN ?_ _ | refine blk_drew ?_ | refine blk_alloc ?_ _)); exact BK239.out) hb); have n1_ := Aside0.mk (below_step (by repeat (first | (with_reducible first | exact HB.out | apply below_alloc | apply pw_below_drewN | apply below_drew1 | refine below_set ?_ GE239.out) | exact HB.out)) hb); have n2_ := Aside0.mk (hbox); have n3_ := Aside0.mk ((by rw [hg]; exact (below_size (by repeat (first | (with_reducible first | exact HB.out | apply below_alloc | apply pw_below_drewN | apply below_drew1 | refine below_set ?_ GE239.out) | exact HB.out))) : w.heap.size ≤ gb240)); have n4_ := Aside0.mk ((by rw [hg]; exact (below_size (by repeat (first | (with_reducible first | exact HB.out | apply below_alloc | apply pw_below_drewN | apply below_drew1 | refine below_set ?_ GE239.out) | exact HB.out))) : w.heap.size ≤ gb240)); have n5_ := Aside0.mk ((by rw [hg]; exact Nat.ne_of_lt (blk_lt (g := gb239) (o := .cells #[.int .i64 a0_0, .int .i64 a0_1] 29 (0, 0)) (by (with_reducible repeat (first | refine blk_drewN ?_ _ | refine blk_drew ?_ | refine blk_alloc ?_ _)); exact BK239.out)) : gb239 ≠ gb240)); have n6_ := Aside0.mk ((by rw [hg]; exact Nat.ne_of_gt (blk_lt (g := gb239) (o := .cells #[.int .i64 a0_0, .int .i64 a0_1] 29 (0, 0)) (by (with_reducible repeat (first | refine blk_drewN ?_ _ | refine blk_drew ?_ | refine blk_alloc ?_ _)); exact BK239.out)) : gb240 ≠ gb239)); clear BK239; clear HB; have BK239 := n0_; have HB := n1_; have BK240 := n2_; have GW240 := n3_; have GE240 := n4_; have NB239_240 := n5_; have NB240_239 := n6_; clear n0_ n1_ n2_ n3_ n4_ n5_ n6_; clear hb hbox hg; have hnb8 := NB239_240.out; have hnc8 := NB240_239.out; have hcz9_0 : w7.cell? ⟨gb239, 0, none⟩ = some (.int .i64 a0_0) := (blk_cell BK239.out 0).trans rfl; have hcz9_1 : w7.cell? ⟨gb239, 1, none⟩ = some (.int .i64 a0_1) := (blk_cell BK239.out 1).trans rfl; have hfz9_0 := blk_frozen BK239.out 0; have hfz9_1 := blk_frozen BK239.out 1) | ((with_reducible refine gate_callee (f := 8) rfl ?_); refine goesL_ (some 9) rfl rfl Try.func8 (by kernel_rfl) rfl #[.agg #[.int .i64 a0_0, .int .i64 a0_1]] rfl (by (try simp only [List.map_toArray, List.map_cons, List.map_nil]); first | done | rfl | (simp only [List.length_drop, List.length_take]; rfl)) ?_; (with_reducible refine (laws_amountOf.calls k a0_0 a0_1 t241 t242 t245 true _ A3.out).mono ?_); rintro e w10 ⟨v243, rfl, ho0, hb⟩; refine ⟨_, rfl, ?_⟩; have n0_ := Aside0.mk (Kd.R_lower ho0 (below_size (by repeat (first | (with_reducible first | exact HB.out | apply below_alloc | apply pw_below_drewN | apply below_drew1 | refine below_set ?_ GE239.out | refine below_set ?_ GE240.out) | exact HB.out)))); have n1_ := Aside0.mk (blk_below (g := gb239) (o := .cells #[.int .i64 a0_0, .int .i64 a0_1] 29 (0, 0)) (by (with_reducible repeat (first | refine blk_drewN ?_ _ | refine blk_drew ?_ | refine blk_alloc ?_ _)); exact BK239.out) hb); have n2_ := Aside0.mk (blk_below (g := gb240) (o := .cells #[.bool a1_0, .slice A1_1 l1_1.length c1_1, .int .i64 a1_2] 32 (0, 0)) (by (with_reducible repeat (first | refine blk_drewN ?_ _ | refine blk_drew ?_ | refine blk_alloc ?_ _)); exact BK240.out) hb); have n3_ := Aside0.mk (below_step (by repeat (first | (with_reducible first | exact HB.out | apply below_alloc | apply pw_below_drewN | apply below_drew1 | refine below_set ?_ GE239.out | refine below_set ?_ GE240.out) | exact HB.out)) hb); clear BK239; clear BK240; clear HB; have HO244 := n0_; have BK239 := n1_; have BK240 := n2_; have HB := n3_; clear n0_ n1_ n2_ n3_; (try clear hb); (try clear hb2); (try clear hk); (try clear hi); (try clear ho0)) | ((with_reducible refine gate_dst (N := 5) rfl ?_); refine box_event ?hg (N := 5) ?hd (cs := #[.bool false, .slice none 0 0, .int .i64 0]) (t := 32) ?hr ?_; (case hd => rfl); (case hg => rfl); (case hr => first | (go_simp; done) | (go_simp; rfl)); intro gb247 hg w11 hbox hb; have n0_ := Aside0.mk (Kd.R_below (by (with_reducible repeat (first | apply Kd.R_alloc | apply Kd.R_drewN | apply Kd.R_drew)); exact HO244.out) hb); have n1_ := Aside0.mk (blk_below (g := gb239) (o := .cells #[.int .i64 a0_0, .int .i64 a0_1] 29 (0, 0)) (by (with_reducible repeat (first | refine blk_drewN ?_ _ | refine blk_drew ?_ | refine blk_alloc ?_ _)); exact BK239.out) hb); have n2_ := Aside0.mk (blk_below (g := gb240) (o := .cells #[.bool a1_0, .slice A1_1 l1_1.length c1_1, .int .i64 a1_2] 32 (0, 0)) (by (with_reducible repeat (first | refine blk_drewN ?_ _ | refine blk_drew ?_ | refine blk_alloc ?_ _)); exact BK240.out) hb); have n3_ := Aside0.mk (below_step (by repeat (first | (with_reducible first | exact HB.out | apply below_alloc | apply pw_below_drewN | apply below_drew1 | refine below_set ?_ GE239.out | refine below_set ?_ GE240.out) | exact HB.out)) hb); have n4_ := Aside0.mk (hbox); have n5_ := Aside0.mk ((by rw [hg]; exact (below_size (by repeat (first | (with_reducible first | exact HB.out | apply below_alloc | apply pw_below_drewN | apply below_drew1 | refine below_set ?_ GE239.out | refine below_set ?_ GE240.out) | exact HB.out))) : w.heap.size ≤ gb247)); have n6_ := Aside0.mk ((by rw [hg]; exact (below_size (by repeat (first | (with_reducible first | exact HB.out | apply below_alloc | apply pw_below_drewN | apply below_drew1 | refine below_set ?_ GE239.out | refine below_set ?_ GE240.out) | exact HB.out))) : w.heap.size ≤ gb247)); have n7_ := Aside0.mk ((by rw [hg]; exact Nat.ne_of_lt (blk_lt (g := gb239) (o := .cells #[.int .i64 a0_0, .int .i64 a0_1] 29 (0, 0)) (by (with_reducible repeat (first | refine blk_drewN ?_ _ | refine blk_drew ?_ | refine blk_alloc ?_ _)); exact BK239.out)) : gb239 ≠ gb247)); have n8_ := Aside0.mk ((by rw [hg]; exact Nat.ne_of_gt (blk_lt (g := gb239) (o := .cells #[.int .i64 a0_0, .int .i64 a0_1] 29 (0, 0)) (by (with_reducible repeat (first | refine blk_drewN ?_ _ | refine blk_drew ?_ | refine blk_alloc ?_ _)); exact BK239.out)) : gb247 ≠ gb239)); have n9_ := Aside0.mk ((by rw [hg]; exact Nat.ne_of_lt (blk_lt (g := gb240) (o := .cells #[.bool a1_0, .slice A1_1 l1_1.length c1_1, .int .i64 a1_2] 32 (0, 0)) (by (with_reducible repeat (first | refine blk_drewN ?_ _ | refine blk_drew ?_ | refine blk_alloc ?_ _)); exact BK240.out)) : gb240 ≠ gb247)); have n10_ := Aside0.mk ((by rw [hg]; exact Nat.ne_of_gt (blk_lt (g := gb240) (o := .cells #[.bool a1_0, .slice A1_1 l1_1.length c1_1, .int .i64 a1_2] 32 (0, 0)) (by (with_reducible repeat (first | refine blk_drewN ?_ _ | refine blk_drew ?_ | refine blk_alloc ?_ _)); exact BK240.out)) : gb247 ≠ gb240)); clear HO244; clear BK239; clear BK240; clear HB; have HO244 := n0_; have BK239 := n1_; have BK240 := n2_; have HB := n3_; have BK247 := n4_; have GW247 := n5_; have GE247 := n6_; have NB239_247 := n7_; have NB247_239 := n8_; have NB240_247 := n9_; have NB247_240 := n10_; clear n0_ n1_ n2_ n3_ n4_ n5_ n6_ n7_ n8_ n9_ n10_; clear hb hbox hg; have hnb12 := NB247_239.out; have hnc12 := NB239_247.out; have hnb13 := NB247_240.out; have hnc13 := NB240_247.out; have hcz14_0 : w11.cell? ⟨gb247, 0, none⟩ = some (.bool false) := (blk_cell BK247.out 0).trans rfl; have hcz14_1 : w11.cell? ⟨gb247, 1, none⟩ = some (.slice none 0 0) := (blk_cell BK247.out 1).trans rfl; have hcz14_2 : w11.cell? ⟨gb247, 2, none⟩ = some (.int .i64 0) := (blk_cell BK247.out 2).trans rfl; have hfz14_0 := blk_frozen BK247.out 0; have hfz14_1 := blk_frozen BK247.out 1; have hfz14_2 := blk_frozen BK247.out 2; obtain ⟨Ao15, co15, eo15⟩ := Kd.R_slice HO244.out; subst eo15; have hcz16_0 : w11.cell? ⟨gb240, 0, none⟩ = some (.bool a1_0) := (blk_cell BK240.out 0).trans rfl; have hcz16_1 : w11.cell? ⟨gb240, 1, none⟩ = some (.slice A1_1 l1_1.length c1_1) := (blk_cell BK240.out 1).trans rfl; have hcz16_2 : w11.cell? ⟨gb240, 2, none⟩ = some (.int .i64 a1_2) := (blk_cell BK240.out 2).trans rfl; have hfz16_0 := blk_frozen BK240.out 0; have hfz16_1 := blk_frozen BK240.out 1; have hfz16_2 := blk_frozen BK240.out 2) | (go_at_call 26; (with_reducible refine (spec_DecimalCmp.calls k t241 _ _ t242 t245 a1_0 _ _ l1_1 a1_2 t248 _ ?side1 ?side2 ?side3 ?side4 A5.out).mono ?_); (case side1 => refine (Kd.R_reads' (e := 3) (base := w.heap.size) (ok := fun k_ => True) (n := t242.length) (c := co15) ?_).2.2; exact (by (with_reducible repeat (first | apply Kd.R_alloc | apply Kd.R_drewN | apply Kd.R_drew)); exact (Kd.R_mono (Kd.R_far (p := ⟨gb247, 2, none⟩) (Kd.R_far (p := ⟨gb247, 1, none⟩) (Kd.R_far (p := ⟨gb247, 0, none⟩) (Kd.R_types HO244.out BK247.out (by decide)) (fun _ hk => hk.2) (.bool t241)) (fun _ hk => hk.2) (.slice Ao15 t242.length co15)) (fun _ hk => hk.2) (.int .i64 t245)) (fun _ h_ => h_.1)))); (case side2 => exact (Kd.R_reads' HO244.out).2.1); (case side3 => exact Kd.C_below HR1_1.out (by repeat (first | (with_reducible first | exact HB.out | apply below_alloc | apply pw_below_drewN | apply below_drew1 | refine below_set ?_ GE239.out | refine below_set ?_ GE240.out | refine below_set ?_ GE247.out) | exact HB.out))); (case side4 => exact HC1_1.out); rintro e w17 ⟨rfl, hb⟩; have n0_ := Aside0.mk (Kd.R_below (by (with_reducible repeat (first | apply Kd.R_alloc | apply Kd.R_drewN | apply Kd.R_drew)); exact (Kd.R_mono (Kd.R_far (p := ⟨gb247, 2, none⟩) (Kd.R_far (p := ⟨gb247, 1, none⟩) (Kd.R_far (p := ⟨gb247, 0, none⟩) (Kd.R_types HO244.out BK247.out (by decide)) (fun _ hk => hk.2) (.bool t241)) (fun _ hk => hk.2) (.slice Ao15 t242.length co15)) (fun _ hk => hk.2) (.int .i64 t245)) (fun _ h_ => h_.1))) hb); have n1_ := Aside0.mk (blk_below (g := gb239) (o := .cells #[.int .i64 a0_0, .int .i64 a0_1] 29 (0, 0)) (by (with_reducible repeat (first | refine blk_drewN ?_ _ | refine blk_drew ?_ | refine blk_alloc ?_ _)); refine blk_far ?_ NB239_247.out _; (with_reducible repeat (first | refine blk_drewN ?_ _ | refine blk_drew ?_ | refine blk_alloc ?_ _)); refine blk_far ?_ NB239_247.out _; (with_reducible repeat (first | refine blk_drewN ?_ _ | refine blk_drew ?_ | refine blk_alloc ?_ _)); refine blk_far ?_ NB239_247.out _; (with_reducible repeat (first | refine blk_drewN ?_ _ | refine blk_drew ?_ | refine blk_alloc ?_ _)); exact BK239.out) hb); have n2_ := Aside0.mk (blk_below (g := gb240) (o := .cells #[.bool a1_0, .slice A1_1 l1_1.length c1_1, .int .i64 a1_2] 32 (0, 0)) (by (with_reducible repeat (first | refine blk_drewN ?_ _ | refine blk_drew ?_ | refine blk_alloc ?_ _)); refine blk_far ?_ NB240_247.out _; (with_reducible repeat (first | refine blk_drewN ?_ _ | refine blk_drew ?_ | refine blk_alloc ?_ _)); refine blk_far ?_ NB240_247.out _; (with_reducible repeat (first | refine blk_drewN ?_ _ | refine blk_drew ?_ | refine blk_alloc ?_ _)); refine blk_far ?_ NB240_247.out _; (with_reducible repeat (first | refine blk_drewN ?_ _ | refine blk_drew ?_ | refine blk_alloc ?_ _)); exact BK240.out) hb); have n3_ := Aside0.mk (blk_below (g := gb247) (o := .cells #[.bool t241, .slice Ao15 t242.length co15, .int .i64 t245] 32 (0, 0)) (by (with_reducible repeat (first | refine blk_drewN ?_ _ | refine blk_drew ?_ | refine blk_alloc ?_ _)); refine blk_put (cs := #[.bool t241, .slice Ao15 t242.length co15, .int .i64 0]) ?_ 2 _ rfl; (with_reducible repeat (first | refine blk_drewN ?_ _ | refine blk_drew ?_ | refine blk_alloc ?_ _)); refine blk_put (cs := #[.bool t241, .slice none 0 0, .int .i64 0]) ?_ 1 _ rfl; (with_reducible repeat (first | refine blk_drewN ?_ _ | refine blk_drew ?_ | refine blk_alloc ?_ _)); refine blk_put (cs := #[.bool false, .slice none 0 0, .int .i64 0]) ?_ 0 _ rfl; (with_reducible repeat (first | refine blk_drewN ?_ _ | refine blk_drew ?_ | refine blk_alloc ?_ _)); exact BK247.out) hb); have n4_ := Aside0.mk (below_step (by repeat (first | (with_reducible first | exact HB.out | apply below_alloc | apply pw_below_drewN | apply below_drew1 | refine below_set ?_ GE239.out | refine below_set ?_ GE240.out | refine below_set ?_ GE247.out) | exact HB.out)) hb); clear HO244; clear BK239; clear BK240; clear BK247; clear HB; have HO244 := n0_; have BK239 := n1_; have BK240 := n2_; have BK247 := n3_; have HB := n4_; clear n0_ n1_ n2_ n3_ n4_; (try clear hb); (try clear hb2); (try clear hk); (try clear hi)))
    go_ret
    exact ⟨by first | rfl | (simp [errW_none, errW_some] <;> rfl) | (simp [*, errW_none, errW_some] <;> rfl), by repeat (first | (with_reducible first | exact HB.out | apply below_alloc | apply pw_below_drewN | apply below_drew1 | refine below_set ?_ GE239.out | refine below_set ?_ GE240.out | refine below_set ?_ GE247.out) | exact HB.out)⟩
  · replace c4 := Bool.eq_false_iff.mpr c4
    subst c4
    have H1 : (some false) = some r := by rw [if_neg (show ¬ (false = true) by decide)] at H; exact H
    clear H
    have H := H1
    clear H1
    obtain rfl := Option.some.inj H
    go_enter Try.func12, Try.ntmps12
    go_wp2_with (first | ((with_reducible refine gate_dst (N := 2) rfl ?_); refine box_event ?hg (N := 2) ?hd (cs := #[.int .i64 a0_0, .int .i64 a0_1]) (t := 29) ?hr ?_; (case hd => rfl); (case hg => rfl); (case hr => first | (go_simp; done) | (go_simp; rfl)); intro gb239 hg w18 hbox hb; have n0_ := Aside0.mk (below_step (by repeat (first | (with_reducible first | exact HB.out | apply below_alloc | apply pw_below_drewN | apply below_drew1) | exact HB.out)) hb); have n1_ := Aside0.mk (hbox); have n2_ := Aside0.mk ((by rw [hg]; exact (below_size (by repeat (first | (with_reducible first | exact HB.out | apply below_alloc | apply pw_below_drewN | apply below_drew1) | exact HB.out))) : w.heap.size ≤ gb239)); have n3_ := Aside0.mk ((by rw [hg]; exact (below_size (by repeat (first | (with_reducible first | exact HB.out | apply below_alloc | apply pw_below_drewN | apply below_drew1) | exact HB.out))) : w.heap.size ≤ gb239)); clear HB; have HB := n0_; have BK239 := n1_; have GW239 := n2_; have GE239 := n3_; clear n0_ n1_ n2_ n3_; clear hb hbox hg) | ((with_reducible refine gate_dst (N := 3) rfl ?_); refine box_event ?hg (N := 3) ?hd (cs := #[.bool a1_0, .slice A1_1 l1_1.length c1_1, .int .i64 a1_2]) (t := 32) ?hr ?_; (case hd => rfl); (case hg => rfl); (case hr => first | (go_simp; done) | (go_simp; rfl)); intro gb240 hg w19 hbox hb; have n0_ := Aside0.mk (blk_below (g := gb239) (o := .cells #[.int .i64 a0_0, .int .i64 a0_1] 29 (0, 0)) (by (with_reducible repeat (first | refine blk_drewN ?_ _ | refine blk_drew ?_ | refine blk_alloc ?_ _)); exact BK239.out) hb); have n1_ := Aside0.mk (below_step (by repeat (first | (with_reducible first | exact HB.out | apply below_alloc | apply pw_below_drewN | apply below_drew1 | refine below_set ?_ GE239.out) | exact HB.out)) hb); have n2_ := Aside0.mk (hbox); have n3_ := Aside0.mk ((by rw [hg]; exact (below_size (by repeat (first | (with_reducible first | exact HB.out | apply below_alloc | apply pw_below_drewN | apply below_drew1 | refine below_set ?_ GE239.out) | exact HB.out))) : w.heap.size ≤ gb240)); have n4_ := Aside0.mk ((by rw [hg]; exact (below_size (by repeat (first | (with_reducible first | exact HB.out | apply below_alloc | apply pw_below_drewN | apply below_drew1 | refine below_set ?_ GE239.out) | exact HB.out))) : w.heap.size ≤ gb240)); have n5_ := Aside0.mk ((by rw [hg]; exact Nat.ne_of_lt (blk_lt (g := gb239) (o := .cells #[.int .i64 a0_0, .int .i64 a0_1] 29 (0, 0)) (by (with_reducible repeat (first | refine blk_drewN ?_ _ | refine blk_drew ?_ | refine blk_alloc ?_ _)); exact BK239.out)) : gb239 ≠ gb240)); have n6_ := Aside0.mk ((by rw [hg]; exact Nat.ne_of_gt (blk_lt (g := gb239) (o := .cells #[.int .i64 a0_0, .int .i64 a0_1] 29 (0, 0)) (by (with_reducible repeat (first | refine blk_drewN ?_ _ | refine blk_drew ?_ | refine blk_alloc ?_ _)); exact BK239.out)) : gb240 ≠ gb239)); clear BK239; clear HB; have BK239 := n0_; have HB := n1_; have BK240 := n2_; have GW240 := n3_; have GE240 := n4_; have NB239_240 := n5_; have NB240_239 := n6_; clear n0_ n1_ n2_ n3_ n4_ n5_ n6_; clear hb hbox hg; have hnb20 := NB239_240.out; have hnc20 := NB240_239.out; have hcz21_0 : w19.cell? ⟨gb239, 0, none⟩ = some (.int .i64 a0_0) := (blk_cell BK239.out 0).trans rfl; have hcz21_1 : w19.cell? ⟨gb239, 1, none⟩ = some (.int .i64 a0_1) := (blk_cell BK239.out 1).trans rfl; have hfz21_0 := blk_frozen BK239.out 0; have hfz21_1 := blk_frozen BK239.out 1) | ((with_reducible refine gate_callee (f := 8) rfl ?_); refine goesL_ (some 9) rfl rfl Try.func8 (by kernel_rfl) rfl #[.agg #[.int .i64 a0_0, .int .i64 a0_1]] rfl (by (try simp only [List.map_toArray, List.map_cons, List.map_nil]); first | done | rfl | (simp only [List.length_drop, List.length_take]; rfl)) ?_; (with_reducible refine (laws_amountOf.calls k a0_0 a0_1 t241 t242 t245 false _ A3.out).mono ?_); rintro e w22 ⟨v243, rfl, ho0, hb⟩; refine ⟨_, rfl, ?_⟩; have n0_ := Aside0.mk (Kd.R_lower ho0 (below_size (by repeat (first | (with_reducible first | exact HB.out | apply below_alloc | apply pw_below_drewN | apply below_drew1 | refine below_set ?_ GE239.out | refine below_set ?_ GE240.out) | exact HB.out)))); have n1_ := Aside0.mk (blk_below (g := gb239) (o := .cells #[.int .i64 a0_0, .int .i64 a0_1] 29 (0, 0)) (by (with_reducible repeat (first | refine blk_drewN ?_ _ | refine blk_drew ?_ | refine blk_alloc ?_ _)); exact BK239.out) hb); have n2_ := Aside0.mk (blk_below (g := gb240) (o := .cells #[.bool a1_0, .slice A1_1 l1_1.length c1_1, .int .i64 a1_2] 32 (0, 0)) (by (with_reducible repeat (first | refine blk_drewN ?_ _ | refine blk_drew ?_ | refine blk_alloc ?_ _)); exact BK240.out) hb); have n3_ := Aside0.mk (below_step (by repeat (first | (with_reducible first | exact HB.out | apply below_alloc | apply pw_below_drewN | apply below_drew1 | refine below_set ?_ GE239.out | refine below_set ?_ GE240.out) | exact HB.out)) hb); clear BK239; clear BK240; clear HB; have HO244 := n0_; have BK239 := n1_; have BK240 := n2_; have HB := n3_; clear n0_ n1_ n2_ n3_; (try clear hb); (try clear hb2); (try clear hk); (try clear hi); (try clear ho0)) | ((with_reducible refine gate_dst (N := 5) rfl ?_); refine box_event ?hg (N := 5) ?hd (cs := #[.bool false, .slice none 0 0, .int .i64 0]) (t := 32) ?hr ?_; (case hd => rfl); (case hg => rfl); (case hr => first | (go_simp; done) | (go_simp; rfl)); intro gb247 hg w23 hbox hb; have n0_ := Aside0.mk (Kd.R_below (by (with_reducible repeat (first | apply Kd.R_alloc | apply Kd.R_drewN | apply Kd.R_drew)); exact HO244.out) hb); have n1_ := Aside0.mk (blk_below (g := gb239) (o := .cells #[.int .i64 a0_0, .int .i64 a0_1] 29 (0, 0)) (by (with_reducible repeat (first | refine blk_drewN ?_ _ | refine blk_drew ?_ | refine blk_alloc ?_ _)); exact BK239.out) hb); have n2_ := Aside0.mk (blk_below (g := gb240) (o := .cells #[.bool a1_0, .slice A1_1 l1_1.length c1_1, .int .i64 a1_2] 32 (0, 0)) (by (with_reducible repeat (first | refine blk_drewN ?_ _ | refine blk_drew ?_ | refine blk_alloc ?_ _)); exact BK240.out) hb); have n3_ := Aside0.mk (below_step (by repeat (first | (with_reducible first | exact HB.out | apply below_alloc | apply pw_below_drewN | apply below_drew1 | refine below_set ?_ GE239.out | refine below_set ?_ GE240.out) | exact HB.out)) hb); have n4_ := Aside0.mk (hbox); have n5_ := Aside0.mk ((by rw [hg]; exact (below_size (by repeat (first | (with_reducible first | exact HB.out | apply below_alloc | apply pw_below_drewN | apply below_drew1 | refine below_set ?_ GE239.out | refine below_set ?_ GE240.out) | exact HB.out))) : w.heap.size ≤ gb247)); have n6_ := Aside0.mk ((by rw [hg]; exact (below_size (by repeat (first | (with_reducible first | exact HB.out | apply below_alloc | apply pw_below_drewN | apply below_drew1 | refine below_set ?_ GE239.out | refine below_set ?_ GE240.out) | exact HB.out))) : w.heap.size ≤ gb247)); have n7_ := Aside0.mk ((by rw [hg]; exact Nat.ne_of_lt (blk_lt (g := gb239) (o := .cells #[.int .i64 a0_0, .int .i64 a0_1] 29 (0, 0)) (by (with_reducible repeat (first | refine blk_drewN ?_ _ | refine blk_drew ?_ | refine blk_alloc ?_ _)); exact BK239.out)) : gb239 ≠ gb247)); have n8_ := Aside0.mk ((by rw [hg]; exact Nat.ne_of_gt (blk_lt (g := gb239) (o := .cells #[.int .i64 a0_0, .int .i64 a0_1] 29 (0, 0)) (by (with_reducible repeat (first | refine blk_drewN ?_ _ | refine blk_drew ?_ | refine blk_alloc ?_ _)); exact BK239.out)) : gb247 ≠ gb239)); have n9_ := Aside0.mk ((by rw [hg]; exact Nat.ne_of_lt (blk_lt (g := gb240) (o := .cells #[.bool a1_0, .slice A1_1 l1_1.length c1_1, .int .i64 a1_2] 32 (0, 0)) (by (with_reducible repeat (first | refine blk_drewN ?_ _ | refine blk_drew ?_ | refine blk_alloc ?_ _)); exact BK240.out)) : gb240 ≠ gb247)); have n10_ := Aside0.mk ((by rw [hg]; exact Nat.ne_of_gt (blk_lt (g := gb240) (o := .cells #[.bool a1_0, .slice A1_1 l1_1.length c1_1, .int .i64 a1_2] 32 (0, 0)) (by (with_reducible repeat (first | refine blk_drewN ?_ _ | refine blk_drew ?_ | refine blk_alloc ?_ _)); exact BK240.out)) : gb247 ≠ gb240)); clear HO244; clear BK239; clear BK240; clear HB; have HO244 := n0_; have BK239 := n1_; have BK240 := n2_; have HB := n3_; have BK247 := n4_; have GW247 := n5_; have GE247 := n6_; have NB239_247 := n7_; have NB247_239 := n8_; have NB240_247 := n9_; have NB247_240 := n10_; clear n0_ n1_ n2_ n3_ n4_ n5_ n6_ n7_ n8_ n9_ n10_; clear hb hbox hg; have hnb24 := NB247_239.out; have hnc24 := NB239_247.out; have hnb25 := NB247_240.out; have hnc25 := NB240_247.out; have hcz26_0 : w23.cell? ⟨gb247, 0, none⟩ = some (.bool false) := (blk_cell BK247.out 0).trans rfl; have hcz26_1 : w23.cell? ⟨gb247, 1, none⟩ = some (.slice none 0 0) := (blk_cell BK247.out 1).trans rfl; have hcz26_2 : w23.cell? ⟨gb247, 2, none⟩ = some (.int .i64 0) := (blk_cell BK247.out 2).trans rfl; have hfz26_0 := blk_frozen BK247.out 0; have hfz26_1 := blk_frozen BK247.out 1; have hfz26_2 := blk_frozen BK247.out 2; obtain ⟨Ao27, co27, eo27⟩ := Kd.R_slice HO244.out; subst eo27))
    go_ret
    exact ⟨by first | rfl | (simp [errW_none, errW_some] <;> rfl) | (simp [*, errW_none, errW_some] <;> rfl), by repeat (first | (with_reducible first | exact HB.out | apply below_alloc | apply pw_below_drewN | apply below_drew1 | refine below_set ?_ GE239.out | refine below_set ?_ GE240.out | refine below_set ?_ GE247.out) | exact HB.out)⟩

/-! ### impl_AmountAdd: function 13 -/
def impl_AmountAdd.f (k : Nat) (a0_0 : Int) (a0_1 : Int) (a1_0 : Int) (a1_1 : Int) : Option (Int × Int × Bool) := (resource_int64Amount_Add.f k a0_0 (wrap32 a0_1) a1_0 (wrap32 a1_1)).bind fun t => some (t.2.1, wrap64 t.2.2, t.1)
theorem impl_AmountAdd.mono : ∀ a0 a1 a2 a3 k, LeO (impl_AmountAdd.f k a0 a1 a2 a3) (impl_AmountAdd.f (k + 1) a0 a1 a2 a3) := by
  intro a0 a1 a2 a3 k
  unfold impl_AmountAdd.f
  exact LeO.bind (resource_int64Amount_Add.mono _ _ _ _ _) (fun _ => LeO.refl _)
theorem impl_AmountAdd.walk_ (k : Nat) (a0_0 a0_1 a1_0 a1_1 : Int) (r1 : Bool) (r2 r3 : Int) (w : World) (h : resource_int64Amount_Add.f k a0_0 (wrap32 a0_1) a1_0 (wrap32 a1_1) = some (r1, r2, r3)) :
    Calls Try.prog 13 #[.agg #[.int .i64 a0_0, .int .i64 a0_1], .agg #[.int .i64 a1_0, .int .i64 a1_1]] w fun e w' => e = .returned (.tuple #[.agg #[.int .i64 r2, .int .i64 (wrap64 r3)], .bool r1]) ∧ Below w.heap.size w w' := by
  have hu1 := Try.underlying47
  have HA := Aside0.mk h
  clear h
  go_enter Try.func13, Try.ntmps13
  go_wp2_with fail
  (with_reducible refine (resource_ZzAmount.calls a0_0 _ _ _ _ rfl).mono ?_)
  rintro e w1 ⟨rfl, hb1⟩
  have hz1 := hb1.size
  have HB1 := Aside0.mk hb1
  clear hb1
  simp at hz1
  have hy1 : w.heap.size + 1 < w1.heap.size := by omega
  have hy2 : w.heap.size < w1.heap.size := by omega
  have hy3 : w.heap.size + 1 + 1 < w1.heap.size := by omega
  have Q0 : (((w.alloc (.cells #[.int .i64 a0_0, .int .i64 a0_1] 29)).alloc (.cells #[.int .i64 a1_0, .int .i64 a1_1] 29)).alloc (.cells #[.int .i64 0, .int .i64 0] 29)).heap[w.heap.size + 1]? = some (.cells #[.int .i64 a1_0, .int .i64 a1_1] 29 (0, 0)) :=
    blk_alloc (by simpa using heap_alloc_new (w.alloc (.cells #[.int .i64 a0_0, .int .i64 a0_1] 29)) (.cells #[.int .i64 a1_0, .int .i64 a1_1] 29)) _
  have Q1 := blk_below Q0 HB1.out
  have q0 : w1.cell? ⟨w.heap.size + 1, 0, none⟩ = some (.int .i64 a1_0) := (blk_cell Q1 0).trans rfl
  have q1 : w1.cell? ⟨w.heap.size + 1, 1, none⟩ = some (.int .i64 a1_1) := (blk_cell Q1 1).trans rfl
  have HQ1 := Aside0.mk Q1
  clear Q0 Q1
  go_wp2_with fail
  (with_reducible refine (resource_ZzAmount.calls a1_0 _ _ _ _ rfl).mono ?_)
  rintro e w2 ⟨rfl, hb2⟩
  have HB0 : Below w.heap.size w w1 := (((Below.refl w.heap.size w).alloc (Nat.le_refl _) _).alloc (by simp) _ |>.alloc (by simp; omega) _).trans (HB1.out.mono (by simp; omega))
  have HS := IsS47.below (IsS47.new w w1 a0_0 (wrap32 a0_1) HB0) hb2
  have HB2 : Below w.heap.size w w2 := (HB0.alloc (by omega) _).trans (hb2.mono (by simp; omega))
  have R0 : (((w.alloc (.cells #[.int .i64 a0_0, .int .i64 a0_1] 29)).alloc (.cells #[.int .i64 a1_0, .int .i64 a1_1] 29)).alloc (.cells #[.int .i64 0, .int .i64 0] 29)).heap[w.heap.size + 1 + 1]? = some (.cells #[.int .i64 0, .int .i64 0] 29 (0, 0)) := by
    simpa using heap_alloc_new ((w.alloc (.cells #[.int .i64 a0_0, .int .i64 a0_1] 29)).alloc (.cells #[.int .i64 a1_0, .int .i64 a1_1] 29)) (.cells #[.int .i64 0, .int .i64 0] 29)
  have R1 := blk_below R0 HB1.out
  have R2 := blk_below (blk_alloc R1 (.cells #[.int .i64 a0_0, .int .i32 (wrap32 a0_1)] 47)) hb2
  clear q0 q1
  go_wp2_with fail
  (with_reducible refine (resource_int64Amount_Add.calls k _ _ _ _ _ _ _ _ w _ HS HB2 HA.out).mono ?_)
  rintro e w3 ⟨rfl, hs3, hb3, hk3⟩
  have R3 := KeepBut.blk hk3 R2 (by omega) (by simp)
  clear R0 R1 R2 hb2 hk3 HS HB0 HB2 HB1 HQ1
  have f0 : w3.cell? ⟨w1.heap.size, 0, none⟩ = some (.int .i64 r2) := cellS47_0 hs3.1
  have f1 : w3.cell? ⟨w1.heap.size, 1, none⟩ = some (.int .i32 r3) := cellS47_1 hs3.1
  have f2 := blk_frozen hs3.1 0
  have f3 := blk_frozen hs3.1 1
  have HB3 := Aside0.mk hb3
  have HR3 := Aside0.mk R3
  have hlt2 : w1.heap.size < w3.heap.size := hs3.lt
  clear hb3 R3 hs3
  go_wp2_with fail
  (with_reducible refine (resource_int64Amount_ZzParts.calls _ _ _ _ _ rfl).mono ?_)
  rintro e w4 ⟨rfl, hb4⟩
  have R4 := blk_below HR3.out hb4
  have HB4 : Below w.heap.size w w4 := HB3.out.trans (hb4.mono (by omega))
  clear f0 f1 f2 f3 hb4 HR3 HB3
  have f4 : w4.cell? ⟨w.heap.size + 1 + 1, 0, none⟩ = some (.int .i64 0) := (blk_cell R4 0).trans rfl
  have f5 : w4.cell? ⟨w.heap.size + 1 + 1, 1, none⟩ = some (.int .i64 0) := (blk_cell R4 1).trans rfl
  have f6 := blk_frozen R4 0
  have f7 := blk_frozen R4 1
  have HR4 := Aside0.mk R4
  have HB := Aside0.mk HB4
  clear R4 HB4
  go_wp2_with fail
  refine bodyPost_ret (results_ct rfl _ _ (w.heap.size + 1 + 1) 29 #[.int .i64 r2, .int .i64 (wrap64 r3)] (0, 0) _ rfl (blk_put (cs := #[.int .i64 r2, .int .i64 0]) (blk_put (cs := #[.int .i64 0, .int .i64 0]) HR4.out 0 _ rfl) 1 _ rfl) Try.underlying29 rfl (by kernel_rfl)) rfl ?_
  exact ⟨rfl, below_set (below_set HB.out (by omega)) (by omega)⟩
theorem impl_AmountAdd.calls (k : Nat) (a0_0 : Int) (a0_1 : Int) (a1_0 : Int) (a1_1 : Int) (r1 : Int) (r2 : Int) (r3 : Bool) (w : World) (h : impl_AmountAdd.f k a0_0 a0_1 a1_0 a1_1 = some (r1, r2, r3)) :
    Calls Try.prog 13 #[.agg #[.int .i64 a0_0, .int .i64 a0_1], .agg #[.int .i64 a1_0, .int .i64 a1_1]] w fun e w' => e = .returned (.tuple #[.agg #[.int .i64 r1, .int .i64 r2], .bool r3]) ∧ Below w.heap.size w w' := by
  unfold impl_AmountAdd.f at h
  obtain ⟨⟨t1, t2, t3⟩, ht, he⟩ := Option.bind_eq_some_iff.1 h
  simp only [Option.some.injEq, Prod.mk.injEq] at he
  obtain ⟨rfl, rfl, rfl⟩ := he
  exact impl_AmountAdd.walk_ k _ _ _ _ _ _ _ w ht

/-! ### laws_amountAwake: function 14 -/
def laws_amountAwake.f (k : Nat)  : Option (Bool) := (impl_AmountAdd.f k 2 3 5 2).bind fun bt249 => (if bt249.2.2 = true then ((spec_DecimalOf.f k 25 2).bind fun bt253 => ((laws_amountIs.f k bt249.1 bt249.2.1 bt253.1 bt253.2.1 bt253.2.2).bind fun t258 => (some t258))) else (some false))
theorem laws_amountAwake.mono : ∀ k, LeO (laws_amountAwake.f k ) (laws_amountAwake.f (k + 1) ) := by
  intro  k
  unfold laws_amountAwake.f
  repeat' first
      | (with_reducible exact impl_AmountAdd.mono _ _ _ _ _)
      | (with_reducible exact laws_amountIs.mono _ _ _ _ _ _)
      | (with_reducible exact spec_DecimalOf.mono _ _ _)
      | (with_reducible exact LeO.refl _)
      | (with_reducible exact LeO.none _)
      | (with_reducible refine LeO.ite ?_ ?_)
      | (with_reducible refine LeO.bind ?_ (fun _ => ?_))
      | exact impl_AmountAdd.mono _ _ _ _ _
      | exact laws_amountIs.mono _ _ _ _ _ _
      | exact spec_DecimalOf.mono _ _ _
      | exact LeO.none _
      | refine LeO.ite ?_ ?_
      | refine LeO.bind ?_ (fun _ => ?_)
set_option maxHeartbeats 8000000 in
set_option maxRecDepth 100000 in
theorem laws_amountAwake.calls (k : Nat)  (r : Bool) (w : World) (h : laws_amountAwake.f k  = some r) :
    Calls Try.prog 14 #[] w fun e w' => e = .returned (.bool r) ∧ Below w.heap.size w w' := by
  have hu29 := Try.underlying29
  have HB := Aside0.mk (Below.refl w.heap.size w)
  have H : ((impl_AmountAdd.f k 2 3 5 2).bind fun bt249 => (if bt249.2.2 = true then ((spec_DecimalOf.f k 25 2).bind fun bt253 => ((laws_amountIs.f k bt249.1 bt249.2.1 bt253.1 bt253.2.1 bt253.2.2).bind fun t258 => (some t258))) else (some false))) = some r := h
  clear h
  replace H := Option.bind_eq_some_iff.mp H
  obtain ⟨⟨t249, t250, t251⟩, A10, H⟩ := H
  replace H : (if t251 = true then ((spec_DecimalOf.f k 25 2).bind fun bt253 => ((laws_amountIs.f k t249 t250 bt253.1 bt253.2.1 bt253.2.2).bind fun t258 => (some t258))) else (some false)) = some r := H
  have A1 := Aside0.mk A10
  clear A10
  by_cases c2 : t251 = true
  · subst c2
    have H1 : ((spec_DecimalOf.f k 25 2).bind fun bt253 => ((laws_amountIs.f k t249 t250 bt253.1 bt253.2.1 bt253.2.2).bind fun t258 => (some t258))) = some r := by rw [if_pos rfl] at H; exact H
    clear H
    have H := H1
    clear H1
    replace H := Option.bind_eq_some_iff.mp H
    obtain ⟨⟨t253, t254, t257⟩, A30, H⟩ := H
    replace H : ((laws_amountIs.f k t249 t250 t253 t254 t257).bind fun t258 => (some t258)) = some r := H
    have A3 := Aside0.mk A30
    clear A30
    replace H := Option.bind_eq_some_iff.mp H
    obtain ⟨t258, A40, H⟩ := H
    replace H : (some t258) = some r := H
    have A4 := Aside0.mk A40
    clear A40
    obtain rfl := Option.some.inj H
    go_enter Try.func14, Try.ntmps14
    try go_wp2_with (first | ((with_reducible refine gate_callee (f := 13) rfl ?_); refine goesL_ (some 6) rfl rfl Try.func13 (by kernel_rfl) rfl #[.agg #[.int .i64 2, .int .i64 3], .agg #[.int .i64 5, .int .i64 2]] rfl (by (try simp only [List.map_toArray, List.map_cons, List.map_nil]); first | done | rfl | (simp only [List.length_drop, List.length_take]; rfl)) ?_; (with_reducible refine (impl_AmountAdd.calls k 2 3 5 2 t249 t250 true _ A1.out).mono ?_); rintro e w5 ⟨rfl, hb⟩; refine ⟨_, rfl, ?_⟩; have n0_ := Aside0.mk (below_step (by repeat (first | (with_reducible first | exact HB.out | apply below_alloc | apply pw_below_drewN | apply below_drew1) | exact HB.out)) hb); clear HB; have HB := n0_; clear n0_; (try clear hb); (try clear hb2); (try clear hk); (try clear hi)) | ((with_reducible refine gate_dst (N := 1) rfl ?_); refine box_event ?hg (N := 1) ?hd (cs := #[.int .i64 0, .int .i64 0]) (t := 29) ?hr ?_; (case hd => rfl); (case hg => rfl); (case hr => first | (go_simp; done) | (go_simp; rfl)); intro gb252 hg w6 hbox hb; have n0_ := Aside0.mk (below_step (by repeat (first | (with_reducible first | exact HB.out | apply below_alloc | apply pw_below_drewN | apply below_drew1) | exact HB.out)) hb); have n1_ := Aside0.mk (hbox); have n2_ := Aside0.mk ((by rw [hg]; exact (below_size (by repeat (first | (with_reducible first | exact HB.out | apply below_alloc | apply pw_below_drewN | apply below_drew1) | exact HB.out))) : w.heap.size ≤ gb252)); have n3_ := Aside0.mk ((by rw [hg]; exact (below_size (by repeat (first | (with_reducible first | exact HB.out | apply below_alloc | apply pw_below_drewN | apply below_drew1) | exact HB.out))) : w.heap.size ≤ gb252)); clear HB; have HB := n0_; have BK252 := n1_; have GW252 := n2_; have GE252 := n3_; clear n0_ n1_ n2_ n3_; clear hb hbox hg; have hcz7_0 : w6.cell? ⟨gb252, 0, none⟩ = some (.int .i64 0) := (blk_cell BK252.out 0).trans rfl; have hcz7_1 : w6.cell? ⟨gb252, 1, none⟩ = some (.int .i64 0) := (blk_cell BK252.out 1).trans rfl; have hfz7_0 := blk_frozen BK252.out 0; have hfz7_1 := blk_frozen BK252.out 1))
    have n0_ : Aside0 (((w6.setCell ⟨gb252, 0, none⟩ (.int .i64 t249)).setCell ⟨gb252, 1, none⟩ (.int .i64 t250)).heap[gb252]? = some (.cells #[.int .i64 t249, .int .i64 t250] 29 (0, 0))) := ⟨by (with_reducible repeat (first | refine blk_drewN ?_ _ | refine blk_drew ?_ | refine blk_alloc ?_ _)); refine blk_put (cs := #[.int .i64 t249, .int .i64 0]) ?_ 1 _ rfl; (with_reducible repeat (first | refine blk_drewN ?_ _ | refine blk_drew ?_ | refine blk_alloc ?_ _)); refine blk_put (cs := #[.int .i64 0, .int .i64 0]) ?_ 0 _ rfl; (with_reducible repeat (first | refine blk_drewN ?_ _ | refine blk_drew ?_ | refine blk_alloc ?_ _)); exact BK252.out⟩
    have n1_ : Aside0 (Below w.heap.size w ((w6.setCell ⟨gb252, 0, none⟩ (.int .i64 t249)).setCell ⟨gb252, 1, none⟩ (.int .i64 t250))) := ⟨by repeat (first | (with_reducible first | exact HB.out | apply below_alloc | apply pw_below_drewN | apply below_drew1 | refine below_set ?_ GE252.out) | exact HB.out)⟩
    (try clear BK252)
    (try clear HB)
    generalize ((w6.setCell ⟨gb252, 0, none⟩ (.int .i64 t249)).setCell ⟨gb252, 1, none⟩ (.int .i64 t250)) = w8 at n0_ n1_ ⊢
    have BK252 := n0_
    have HB := n1_
    clear n0_ n1_
    have n0_ := Aside0.mk (blk_drew BK252.out)
    have n1_ := Aside0.mk (below_drew1 HB.out)
    clear BK252
    clear HB
    have BK252 := n0_
    have HB := n1_
    clear n0_ n1_
    refine start_ (n := 7) (S := fun w' => w'.cell? ⟨gb252, 0, none⟩ = some (.int .i64 t249) ∧ w'.cell? ⟨gb252, 1, none⟩ = some (.int .i64 t250)) (ds := []) #[false, false, false, false, false, false, false] (by kernel_rfl) rfl rfl ⟨(blk_cell BK252.out 0).trans rfl, (blk_cell BK252.out 1).trans rfl⟩ (fun hHeld => ?_)
    generalize w8.drew = w9 at BK252 HB hHeld ⊢
    refine pure_ (i := 0) (N := some 9) (v := ?_) (a' := ?_) #[true, false, false, false, false, false, false] rfl rfl (by kernel_rfl) (fun _ _ _ h => h) (Or.inl ⟨by rfl, ?_⟩) ?_ ?_
    rotate_left
    · intro w'
      go_simp
      with_reducible rfl
    rotate_left
    · simp only [Act.put, List.setIfInBounds_toArray, List.set_cons_zero, List.set_cons_succ, i64_w, i32_w]
      rfl
    refine pure_ (i := 1) (N := some 10) (v := ?_) (a' := ?_) #[true, true, false, false, false, false, false] rfl rfl (by kernel_rfl) (fun _ _ _ h => h) (Or.inl ⟨by rfl, ?_⟩) ?_ ?_
    rotate_left
    · intro w'
      go_simp
      with_reducible rfl
    rotate_left
    · simp only [Act.put, List.setIfInBounds_toArray, List.set_cons_zero, List.set_cons_succ, i64_w, i32_w]
      rfl
    refine take_ (i := 2) (N := some 11) (v := ?_) (a' := ?_) #[true, true, true, false, false, false, false] rfl rfl (by kernel_rfl) (fun _ _ _ h => h) (Or.inl ⟨by rfl, ?_⟩) hHeld ?_ ?_
    rotate_left
    · rintro w' ⟨s0, s1⟩
      go_simp
      with_reducible rfl
    rotate_left
    · simp only [Act.put, List.setIfInBounds_toArray, List.set_cons_zero, List.set_cons_succ, i64_w, i32_w]
      rfl
    refine one_ (i := 3) (N := some 12) #[true, true, true, true, false, false, false] rfl rfl (by kernel_rfl) (by decide) (fun K hK => ?_)
    refine goes_ Try.func19 (by kernel_rfl) rfl #[.int .i64 25, .int .i64 2] (by rfl) rfl rfl (by (try simp only [List.map_toArray, List.map_cons, List.map_nil]); first | done | rfl | (simp only [List.length_drop, List.length_take]; rfl)) ?_
    with_reducible refine (spec_DecimalOf.calls k 25 2 t253 t254 t257 _ A3.out).mono ?_
    rintro e w10 ⟨v255, rfl, ho0, hb⟩
    refine ⟨_, rfl, ?_⟩
    have n0_ := Aside0.mk (Kd.R_lower ho0 (below_size (by repeat (first | (with_reducible first | exact HB.out | apply below_alloc | apply pw_below_drewN | apply below_drew1 | refine below_set ?_ GE252.out) | exact HB.out))))
    have n1_ := Aside0.mk (blk_below (g := gb252) (o := .cells #[.int .i64 t249, .int .i64 t250] 29 (0, 0)) (by (with_reducible repeat (first | refine blk_drewN ?_ _ | refine blk_drew ?_ | refine blk_alloc ?_ _)); exact BK252.out) hb)
    have n2_ := Aside0.mk (below_step (by repeat (first | (with_reducible first | exact HB.out | apply below_alloc | apply pw_below_drewN | apply below_drew1 | refine below_set ?_ GE252.out) | exact HB.out)) hb)
    clear BK252
    clear HB
    have HO256 := n0_
    have BK252 := n1_
    have HB := n2_
    clear n0_ n1_ n2_
    (try clear hb)
    (try clear hb2)
    (try clear hk)
    (try clear hi)
    (try clear ho0)
    obtain ⟨Ao11, co11, eo11⟩ := Kd.R_slice HO256.out
    (first | subst eo11 | (injection eo11 with f1_ f2_ f3_; have f4_ := f1_.symm; have f5_ := f3_.symm; clear f1_ f2_ f3_; subst f4_; subst f5_))
    refine hK.out _ _ ⟨(blk_cell BK252.out 0).trans rfl, (blk_cell BK252.out 1).trans rfl⟩ (fun hHeld => ?_)
    clear hK K
    refine norm_ (a' := ?_) ?_ ?_
    rotate_left
    · show Act.put _ (some 12) _ = _
      simp only [Act.put, List.setIfInBounds_toArray, List.set_cons_zero, List.set_cons_succ, i64_w, i32_w]
      rfl
    refine one_ (i := 4) (N := some 13) #[true, true, true, true, true, false, false] rfl rfl (by kernel_rfl) (by decide) (fun K hK => ?_)
    refine goes_ Try.func12 (by kernel_rfl) rfl #[.agg #[.int .i64 t249, .int .i64 t250], .agg #[.bool t253, .slice Ao11 t254.length co11, .int .i64 t257]] (by rfl) rfl rfl (by (try simp only [List.map_toArray, List.map_cons, List.map_nil]); first | done | rfl | (simp only [List.length_drop, List.length_take]; rfl)) ?_
    with_reducible refine (laws_amountIs.calls k t249 t250 t253 _ _ t254 t257 t258 _ ?side1 ?side2 A4.out).mono ?_
    (case side1 => repeat (first | exact (Kd.R_reads' HO256.out).2.2 | (with_reducible refine Kd.C_alloc ?_ _) | (with_reducible refine Kd.C_drewN ?_ _) | (with_reducible refine Kd.C_drew ?_)))
    (case side2 => exact (Kd.R_reads' HO256.out).2.1)
    rintro e w12 ⟨rfl, hb⟩
    refine ⟨_, rfl, ?_⟩
    have n0_ := Aside0.mk (Kd.R_below (by (with_reducible repeat (first | apply Kd.R_alloc | apply Kd.R_drewN | apply Kd.R_drew)); exact HO256.out) hb)
    have n1_ := Aside0.mk (blk_below (g := gb252) (o := .cells #[.int .i64 t249, .int .i64 t250] 29 (0, 0)) (by (with_reducible repeat (first | refine blk_drewN ?_ _ | refine blk_drew ?_ | refine blk_alloc ?_ _)); exact BK252.out) hb)
    have n2_ := Aside0.mk (below_step (by repeat (first | (with_reducible first | exact HB.out | apply below_alloc | apply pw_below_drewN | apply below_drew1 | refine below_set ?_ GE252.out) | exact HB.out)) hb)
    clear HO256
    clear BK252
    clear HB
    have HO256 := n0_
    have BK252 := n1_
    have HB := n2_
    clear n0_ n1_ n2_
    (try clear hb)
    (try clear hb2)
    (try clear hk)
    (try clear hi)
    refine hK.out _ _ ⟨(blk_cell BK252.out 0).trans rfl, (blk_cell BK252.out 1).trans rfl⟩ (fun hHeld => ?_)
    clear hK K
    refine norm_ (a' := ?_) ?_ ?_
    rotate_left
    · show Act.put _ (some 13) _ = _
      simp only [Act.put, List.setIfInBounds_toArray, List.set_cons_zero, List.set_cons_succ, i64_w, i32_w]
      rfl
    refine pure_ (i := 5) (N := some 14) (v := ?_) (a' := ?_) #[true, true, true, true, true, true, false] rfl rfl (by kernel_rfl) (fun _ _ _ h => h) (Or.inl ⟨by rfl, ?_⟩) ?_ ?_
    rotate_left
    · intro w'
      go_simp
      with_reducible rfl
    rotate_left
    · simp only [Act.put, List.setIfInBounds_toArray, List.set_cons_zero, List.set_cons_succ, i64_w, i32_w]
      rfl
    refine pure_ (i := 6) (N := some 0) (v := ?_) (a' := ?_) #[true, true, true, true, true, true, true] rfl rfl (by kernel_rfl) (fun _ _ _ h => h) (Or.inl ⟨by rfl, ?_⟩) ?_ ?_
    rotate_left
    · intro w'
      go_simp
      with_reducible rfl
    rotate_left
    · simp only [Act.put, List.setIfInBounds_toArray, List.set_cons_zero, List.set_cons_succ, i64_w, i32_w]
      rfl
    refine done_ (by kernel_rfl) ?_
    try go_wp2
    go_ret
    exact ⟨by first | rfl | (simp [errW_none, errW_some] <;> rfl) | (simp [*, errW_none, errW_some] <;> rfl), by repeat (first | (with_reducible first | exact HB.out | apply below_alloc | apply pw_below_drewN | apply below_drew1 | refine below_set ?_ GE252.out) | exact HB.out)⟩
  · replace c2 := Bool.eq_false_iff.mpr c2
    subst c2
    have H1 : (some false) = some r := by rw [if_neg (show ¬ (false = true) by decide)] at H; exact H
    clear H
    have H := H1
    clear H1
    obtain rfl := Option.some.inj H
    go_enter Try.func14, Try.ntmps14
    try go_wp2_with (first | ((with_reducible refine gate_callee (f := 13) rfl ?_); refine goesL_ (some 6) rfl rfl Try.func13 (by kernel_rfl) rfl #[.agg #[.int .i64 2, .int .i64 3], .agg #[.int .i64 5, .int .i64 2]] rfl (by (try simp only [List.map_toArray, List.map_cons, List.map_nil]); first | done | rfl | (simp only [List.length_drop, List.length_take]; rfl)) ?_; (with_reducible refine (impl_AmountAdd.calls k 2 3 5 2 t249 t250 false _ A1.out).mono ?_); rintro e w13 ⟨rfl, hb⟩; refine ⟨_, rfl, ?_⟩; have n0_ := Aside0.mk (below_step (by repeat (first | (with_reducible first | exact HB.out | apply below_alloc | apply pw_below_drewN | apply below_drew1) | exact HB.out)) hb); clear HB; have HB := n0_; clear n0_; (try clear hb); (try clear hb2); (try clear hk); (try clear hi)) | ((with_reducible refine gate_dst (N := 1) rfl ?_); refine box_event ?hg (N := 1) ?hd (cs := #[.int .i64 0, .int .i64 0]) (t := 29) ?hr ?_; (case hd => rfl); (case hg => rfl); (case hr => first | (go_simp; done) | (go_simp; rfl)); intro gb252 hg w14 hbox hb; have n0_ := Aside0.mk (below_step (by repeat (first | (with_reducible first | exact HB.out | apply below_alloc | apply pw_below_drewN | apply below_drew1) | exact HB.out)) hb); have n1_ := Aside0.mk (hbox); have n2_ := Aside0.mk ((by rw [hg]; exact (below_size (by repeat (first | (with_reducible first | exact HB.out | apply below_alloc | apply pw_below_drewN | apply below_drew1) | exact HB.out))) : w.heap.size ≤ gb252)); have n3_ := Aside0.mk ((by rw [hg]; exact (below_size (by repeat (first | (with_reducible first | exact HB.out | apply below_alloc | apply pw_below_drewN | apply below_drew1) | exact HB.out))) : w.heap.size ≤ gb252)); clear HB; have HB := n0_; have BK252 := n1_; have GW252 := n2_; have GE252 := n3_; clear n0_ n1_ n2_ n3_; clear hb hbox hg; have hcz15_0 : w14.cell? ⟨gb252, 0, none⟩ = some (.int .i64 0) := (blk_cell BK252.out 0).trans rfl; have hcz15_1 : w14.cell? ⟨gb252, 1, none⟩ = some (.int .i64 0) := (blk_cell BK252.out 1).trans rfl; have hfz15_0 := blk_frozen BK252.out 0; have hfz15_1 := blk_frozen BK252.out 1))
    have n0_ : Aside0 (((w14.setCell ⟨gb252, 0, none⟩ (.int .i64 t249)).setCell ⟨gb252, 1, none⟩ (.int .i64 t250)).heap[gb252]? = some (.cells #[.int .i64 t249, .int .i64 t250] 29 (0, 0))) := ⟨by (with_reducible repeat (first | refine blk_drewN ?_ _ | refine blk_drew ?_ | refine blk_alloc ?_ _)); refine blk_put (cs := #[.int .i64 t249, .int .i64 0]) ?_ 1 _ rfl; (with_reducible repeat (first | refine blk_drewN ?_ _ | refine blk_drew ?_ | refine blk_alloc ?_ _)); refine blk_put (cs := #[.int .i64 0, .int .i64 0]) ?_ 0 _ rfl; (with_reducible repeat (first | refine blk_drewN ?_ _ | refine blk_drew ?_ | refine blk_alloc ?_ _)); exact BK252.out⟩
    have n1_ : Aside0 (Below w.heap.size w ((w14.setCell ⟨gb252, 0, none⟩ (.int .i64 t249)).setCell ⟨gb252, 1, none⟩ (.int .i64 t250))) := ⟨by repeat (first | (with_reducible first | exact HB.out | apply below_alloc | apply pw_below_drewN | apply below_drew1 | refine below_set ?_ GE252.out) | exact HB.out)⟩
    (try clear BK252)
    (try clear HB)
    generalize ((w14.setCell ⟨gb252, 0, none⟩ (.int .i64 t249)).setCell ⟨gb252, 1, none⟩ (.int .i64 t250)) = w16 at n0_ n1_ ⊢
    have BK252 := n0_
    have HB := n1_
    clear n0_ n1_
    have n0_ := Aside0.mk (blk_drew BK252.out)
    have n1_ := Aside0.mk (below_drew1 HB.out)
    clear BK252
    clear HB
    have BK252 := n0_
    have HB := n1_
    clear n0_ n1_
    refine start_ (n := 7) (S := fun w' => True) (ds := []) #[false, false, false, false, false, false, false] (by kernel_rfl) rfl rfl trivial (fun hHeld => ?_)
    generalize w16.drew = w17 at BK252 HB hHeld ⊢
    refine pure_ (i := 0) (N := some 9) (v := ?_) (a' := ?_) #[true, false, false, false, false, false, false] rfl rfl (by kernel_rfl) (fun _ _ _ h => h) (Or.inl ⟨by rfl, ?_⟩) ?_ ?_
    rotate_left
    · intro w'
      go_simp
      with_reducible rfl
    rotate_left
    · simp only [Act.put, List.setIfInBounds_toArray, List.set_cons_zero, List.set_cons_succ, i64_w, i32_w]
      rfl
    refine pure_ (i := 1) (N := some 10) (v := ?_) (a' := ?_) #[true, true, false, false, false, false, false] rfl rfl (by kernel_rfl) (fun _ _ _ h => h) (Or.inl ⟨by rfl, ?_⟩) ?_ ?_
    rotate_left
    · intro w'
      go_simp
      with_reducible rfl
    rotate_left
    · simp only [Act.put, List.setIfInBounds_toArray, List.set_cons_zero, List.set_cons_succ, i64_w, i32_w]
      rfl
    refine pure_ (i := 2) (N := some 11) (v := undef) (a' := ?_) #[true, true, true, false, false, false, false] rfl rfl (by kernel_rfl) (fun _ _ _ h => h) (Or.inr ⟨by rfl, rfl⟩) ?_ ?_
    rotate_left
    · simp only [Act.put, List.setIfInBounds_toArray, List.set_cons_zero, List.set_cons_succ, i64_w, i32_w]
      rfl
    refine pure_ (i := 3) (N := some 12) (v := undef) (a' := ?_) #[true, true, true, true, false, false, false] rfl rfl (by kernel_rfl) (fun _ _ _ h => h) (Or.inr ⟨by rfl, rfl⟩) ?_ ?_
    rotate_left
    · simp only [Act.put, List.setIfInBounds_toArray, List.set_cons_zero, List.set_cons_succ, i64_w, i32_w]
      rfl
    refine pure_ (i := 4) (N := some 13) (v := undef) (a' := ?_) #[true, true, true, true, true, false, false] rfl rfl (by kernel_rfl) (fun _ _ _ h => h) (Or.inr ⟨by rfl, rfl⟩) ?_ ?_
    rotate_left
    · simp only [Act.put, List.setIfInBounds_toArray, List.set_cons_zero, List.set_cons_succ, i64_w, i32_w]
      rfl
    refine pure_ (i := 5) (N := some 14) (v := ?_) (a' := ?_) #[true, true, true, true, true, true, false] rfl rfl (by kernel_rfl) (fun _ _ _ h => h) (Or.inl ⟨by rfl, ?_⟩) ?_ ?_
    rotate_left
    · intro w'
      go_simp
      with_reducible rfl
    rotate_left
    · simp only [Act.put, List.setIfInBounds_toArray, List.set_cons_zero, List.set_cons_succ, i64_w, i32_w]
      rfl
    refine pure_ (i := 6) (N := some 0) (v := ?_) (a' := ?_) #[true, true, true, true, true, true, true] rfl rfl (by kernel_rfl) (fun _ _ _ h => h) (Or.inl ⟨by rfl, ?_⟩) ?_ ?_
    rotate_left
    · intro w'
      go_simp
      with_reducible rfl
    rotate_left
    · simp only [Act.put, List.setIfInBounds_toArray, List.set_cons_zero, List.set_cons_succ, i64_w, i32_w]
      rfl
    refine done_ (by kernel_rfl) ?_
    try go_wp2
    go_ret
    exact ⟨by first | rfl | (simp [errW_none, errW_some] <;> rfl) | (simp [*, errW_none, errW_some] <;> rfl), by repeat (first | (with_reducible first | exact HB.out | apply below_alloc | apply pw_below_drewN | apply below_drew1 | refine below_set ?_ GE252.out) | exact HB.out)⟩

end Go.Proofs.Ytmkpkpkcoieeiaa.XFnAmountSub
