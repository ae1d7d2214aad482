/- A text of this session: the functions of the law FnAmountSign, by a program that calls the kit's print and lays this session's own contracts of single functions beside. -/
import Derived.Test.YtpchihkegmihiaaXFnAmountSignx0
import Derived.Test.YtpchihkegmihiaaXFnAmountSignx2
import Derived.Test.YtpchihkegmihiaaXFnAmountSignx6
namespace Go.Proofs.Ytpchihkegmihiaa.XFnAmountSign
open Go.RowKit Go.Proofs.YtpchihkegmihiaaW.PrintWords Go.Proofs.YtpchihkegmihiaaW.PrintLast Go.Proofs.YtpchihkegmihiaaW.PrintMore
attribute [local go_sem] max2_int min2_int max_two min_two max_three min_three max_four min_four   -- for this text's walks alone
set_option linter.unusedVariables false
set_option linter.unusedSimpArgs false

/-! ### laws_FnAmountSign: function 7 -/
def laws_FnAmountSign.j0 : Nat → Bool → Int → Int → Bool → List Int → Int → Option (Bool)
  | 0, _, _, _, _, _, _ => none
  | k + 1, x44, x230000, x230001, x237000, x237001, x237002 => if x44 = true then (some false) else ((impl_AmountSign.f x230000 x230001).bind fun t241 => ((spec_DecimalSign.f x237000 x237001 x237002).bind fun t242 => (if t241 = t242 then ((laws_amountAwake.f k).bind fun t243 => (some t243)) else (some false))))
def laws_FnAmountSign.f (k : Nat) (a0_0 : Int) (a0_1 : Int) : Option (Bool) := (laws_amountOf.f k a0_0 a0_1).bind fun bt230 => (if bt230.2.2.2 = true then ((impl_AmountInt.f k a0_0 a0_1).bind fun bt237 => ((spec_DecimalInt.f k bt230.1 bt230.2.1 bt230.2.2.1).bind fun bt239 => (if bt237.2 = true then (if bt239.2 = true then (if bt237.1 = bt239.1 then (laws_FnAmountSign.j0 k false a0_0 a0_1 bt230.1 bt230.2.1 bt230.2.2.1) else (laws_FnAmountSign.j0 k true a0_0 a0_1 bt230.1 bt230.2.1 bt230.2.2.1)) else (laws_FnAmountSign.j0 k true a0_0 a0_1 bt230.1 bt230.2.1 bt230.2.2.1)) else (laws_FnAmountSign.j0 k (a0_1 == 0) a0_0 a0_1 bt230.1 bt230.2.1 bt230.2.2.1)))) else (some true))
theorem laws_FnAmountSign.mono_l : ∀ k, (∀ y0 y1 y2 y3 y4 y5, LeO (laws_FnAmountSign.j0 k y0 y1 y2 y3 y4 y5) (laws_FnAmountSign.j0 (k + 1) y0 y1 y2 y3 y4 y5))
  | 0 => fun _ _ _ _ _ _ r h => by simp [laws_FnAmountSign.j0] at h
  | k + 1 => by
    have ih0 := laws_FnAmountSign.mono_l k
    · intro y0 y1 y2 y3 y4 y5
      unfold laws_FnAmountSign.j0
      repeat' first
      | (with_reducible exact ih0 _ _ _ _ _ _)
      | (with_reducible exact impl_AmountInt.mono _ _ _)
      | (with_reducible exact laws_amountAwake.mono _)
      | (with_reducible exact laws_amountOf.mono _ _ _)
      | (with_reducible exact spec_DecimalInt.mono _ _ _ _)
      | (with_reducible exact LeO.refl _)
      | (with_reducible exact LeO.none _)
      | (with_reducible refine LeO.ite ?_ ?_)
      | (with_reducible refine LeO.bind ?_ (fun _ => ?_))
      | exact ih0 _ _ _ _ _ _
      | exact impl_AmountInt.mono _ _ _
      | exact laws_amountAwake.mono _
      | exact laws_amountOf.mono _ _ _
      | exact spec_DecimalInt.mono _ _ _ _
      | exact LeO.none _
      | refine LeO.ite ?_ ?_
      | refine LeO.bind ?_ (fun _ => ?_)
theorem laws_FnAmountSign.mono : ∀ a0 a1 k, LeO (laws_FnAmountSign.f k a0 a1) (laws_FnAmountSign.f (k + 1) a0 a1) := by
  intro a0 a1 k
  have ih0 := laws_FnAmountSign.mono_l k
  unfold laws_FnAmountSign.f
  repeat' first
      | (with_reducible exact ih0 _ _ _ _ _ _)
      | (with_reducible exact impl_AmountInt.mono _ _ _)
      | (with_reducible exact laws_amountAwake.mono _)
      | (with_reducible exact laws_amountOf.mono _ _ _)
      | (with_reducible exact spec_DecimalInt.mono _ _ _ _)
      | (with_reducible exact LeO.refl _)
      | (with_reducible exact LeO.none _)
      | (with_reducible refine LeO.ite ?_ ?_)
      | (with_reducible refine LeO.bind ?_ (fun _ => ?_))
      | exact ih0 _ _ _ _ _ _
      | exact impl_AmountInt.mono _ _ _
      | exact laws_amountAwake.mono _
      | exact laws_amountOf.mono _ _ _
      | exact spec_DecimalInt.mono _ _ _ _
      | exact LeO.none _
      | refine LeO.ite ?_ ?_
      | refine LeO.bind ?_ (fun _ => ?_)
def laws_FnAmountSign.T8 : Bool × List (List Nat × List Nat) := (true, [([], []), ([0], [0]), ([], []), ([2, 1], [2]), ([1, 3], [1, 3]), ([4, 3], [4]), ([5, 5], [5]), ([5, 6], [5, 6]), ([7, 6, 0, 1, 2, 3, 4, 5, 6, 7], [7])])
def laws_FnAmountSign.B8 : List Nat := [0, 1, 0, 7, 15, 31, 63, 127, 255]
theorem laws_FnAmountSign.tab8 : rtab .any (opsOf Try.f7 8) = laws_FnAmountSign.T8 := by kernel_rfl
theorem laws_FnAmountSign.bits8 : waitsOk laws_FnAmountSign.T8.2 laws_FnAmountSign.B8 = true := by kernel_rfl
set_option maxHeartbeats 8000000 in
set_option maxRecDepth 100000 in
theorem laws_FnAmountSign.calls (k : Nat) (a0_0 : Int) (a0_1 : Int) (r : Bool) (w : World) (h : laws_FnAmountSign.f k a0_0 a0_1 = some r) :
    Calls Try.prog 7 #[.agg #[.int .i64 a0_0, .int .i64 a0_1]] w fun e w' => e = .returned (.bool r) ∧ Below w.heap.size w w' := by
  have hu40 := Try.underlying40
  have hu24 := Try.underlying24
  have HB := Aside0.mk (Below.refl w.heap.size w)
  have H : ((laws_amountOf.f k a0_0 a0_1).bind fun bt230 => (if bt230.2.2.2 = true then ((impl_AmountInt.f k a0_0 a0_1).bind fun bt237 => ((spec_DecimalInt.f k bt230.1 bt230.2.1 bt230.2.2.1).bind fun bt239 => (if bt237.2 = true then (if bt239.2 = true then (if bt237.1 = bt239.1 then (laws_FnAmountSign.j0 k false a0_0 a0_1 bt230.1 bt230.2.1 bt230.2.2.1) else (laws_FnAmountSign.j0 k true a0_0 a0_1 bt230.1 bt230.2.1 bt230.2.2.1)) else (laws_FnAmountSign.j0 k true a0_0 a0_1 bt230.1 bt230.2.1 bt230.2.2.1)) else (laws_FnAmountSign.j0 k (a0_1 == 0) a0_0 a0_1 bt230.1 bt230.2.1 bt230.2.2.1)))) else (some true))) = some r := h
  clear h
  replace H := Option.bind_eq_some_iff.mp H
  obtain ⟨⟨t230, t231, t234, t235⟩, A20, H⟩ := H
  replace H : (if t235 = true then ((impl_AmountInt.f k a0_0 a0_1).bind fun bt237 => ((spec_DecimalInt.f k t230 t231 t234).bind fun bt239 => (if bt237.2 = true then (if bt239.2 = true then (if bt237.1 = bt239.1 then (laws_FnAmountSign.j0 k false a0_0 a0_1 t230 t231 t234) else (laws_FnAmountSign.j0 k true a0_0 a0_1 t230 t231 t234)) else (laws_FnAmountSign.j0 k true a0_0 a0_1 t230 t231 t234)) else (laws_FnAmountSign.j0 k (a0_1 == 0) a0_0 a0_1 t230 t231 t234)))) else (some true)) = some r := H
  have A2 := Aside0.mk A20
  clear A20
  by_cases c3 : t235 = true
  · subst c3
    have H1 : ((impl_AmountInt.f k a0_0 a0_1).bind fun bt237 => ((spec_DecimalInt.f k t230 t231 t234).bind fun bt239 => (if bt237.2 = true then (if bt239.2 = true then (if bt237.1 = bt239.1 then (laws_FnAmountSign.j0 k false a0_0 a0_1 t230 t231 t234) else (laws_FnAmountSign.j0 k true a0_0 a0_1 t230 t231 t234)) else (laws_FnAmountSign.j0 k true a0_0 a0_1 t230 t231 t234)) else (laws_FnAmountSign.j0 k (a0_1 == 0) a0_0 a0_1 t230 t231 t234)))) = some r := by rw [if_pos rfl] at H; exact H
    clear H
    have H := H1
    clear H1
    replace H := Option.bind_eq_some_iff.mp H
    obtain ⟨⟨t237, t238⟩, A40, H⟩ := H
    replace H : ((spec_DecimalInt.f k t230 t231 t234).bind fun bt239 => (if t238 = true then (if bt239.2 = true then (if t237 = bt239.1 then (laws_FnAmountSign.j0 k false a0_0 a0_1 t230 t231 t234) else (laws_FnAmountSign.j0 k true a0_0 a0_1 t230 t231 t234)) else (laws_FnAmountSign.j0 k true a0_0 a0_1 t230 t231 t234)) else (laws_FnAmountSign.j0 k (a0_1 == 0) a0_0 a0_1 t230 t231 t234))) = some r := H
    have A4 := Aside0.mk A40
    clear A40
    replace H := Option.bind_eq_some_iff.mp H
    obtain ⟨⟨t239, t240⟩, A50, H⟩ := H
    replace H : (if t238 = true then (if t240 = true then (if t237 = t239 then (laws_FnAmountSign.j0 k false a0_0 a0_1 t230 t231 t234) else (laws_FnAmountSign.j0 k true a0_0 a0_1 t230 t231 t234)) else (laws_FnAmountSign.j0 k true a0_0 a0_1 t230 t231 t234)) else (laws_FnAmountSign.j0 k (a0_1 == 0) a0_0 a0_1 t230 t231 t234)) = some r := H
    have A5 := Aside0.mk A50
    clear A50
    have HC6 := Aside0.mk H
    clear H
    go_enter Try.func7, Try.ntmps7
    go_upto_region 6 with (first | ((with_reducible refine gate_dst (N := 1) rfl ?_); refine box_event ?hg (N := 1) ?hd (cs := #[.int .i64 a0_0, .int .i64 a0_1]) (t := 40) ?hr ?_; (case hd => rfl); (case hg => rfl); (case hr => first | (go_simp; done) | (go_simp; rfl)); intro gb229 hg w7 hbox hb; have n0_ := Aside0.mk (below_step (by repeat (first | (with_reducible first | exact HB.out | apply below_alloc | apply pw_below_drewN | apply below_drew1) | exact HB.out)) hb); have n1_ := Aside0.mk (hbox); have n2_ := Aside0.mk ((by rw [hg]; exact (below_size (by repeat (first | (with_reducible first | exact HB.out | apply below_alloc | apply pw_below_drewN | apply below_drew1) | exact HB.out))) : w.heap.size ≤ gb229)); have n3_ := Aside0.mk ((by rw [hg]; exact (below_size (by repeat (first | (with_reducible first | exact HB.out | apply below_alloc | apply pw_below_drewN | apply below_drew1) | exact HB.out))) : w.heap.size ≤ gb229)); clear HB; have HB := n0_; have BK229 := n1_; have GW229 := n2_; have GE229 := n3_; clear n0_ n1_ n2_ n3_; clear hb hbox hg; have hcz8_0 : w7.cell? ⟨gb229, 0, none⟩ = some (.int .i64 a0_0) := (blk_cell BK229.out 0).trans rfl; have hcz8_1 : w7.cell? ⟨gb229, 1, none⟩ = some (.int .i64 a0_1) := (blk_cell BK229.out 1).trans rfl; have hfz8_0 := blk_frozen BK229.out 0; have hfz8_1 := blk_frozen BK229.out 1) | ((with_reducible refine gate_callee (f := 18) rfl ?_); refine goesL_ (some 11) rfl rfl Try.func18 (by kernel_rfl) rfl #[.agg #[.int .i64 a0_0, .int .i64 a0_1]] rfl (by (try simp only [List.map_toArray, List.map_cons, List.map_nil]); first | done | rfl | (simp only [List.length_drop, List.length_take]; rfl)) ?_; (with_reducible refine (laws_amountOf.calls k a0_0 a0_1 t230 t231 t234 true _ A2.out).mono ?_); rintro e w9 ⟨v232, rfl, ho0, hb⟩; refine ⟨_, rfl, ?_⟩; have n0_ := Aside0.mk (Kd.R_lower ho0 (below_size (by repeat (first | (with_reducible first | exact HB.out | apply below_alloc | apply pw_below_drewN | apply below_drew1 | refine below_set ?_ GE229.out) | exact HB.out)))); have n1_ := Aside0.mk (blk_below (g := gb229) (o := .cells #[.int .i64 a0_0, .int .i64 a0_1] 40 (0, 0)) (by (with_reducible repeat (first | refine blk_drewN ?_ _ | refine blk_drew ?_ | refine blk_alloc ?_ _)); exact BK229.out) hb); have n2_ := Aside0.mk (below_step (by repeat (first | (with_reducible first | exact HB.out | apply below_alloc | apply pw_below_drewN | apply below_drew1 | refine below_set ?_ GE229.out) | exact HB.out)) hb); clear BK229; clear HB; have HO233 := n0_; have BK229 := n1_; have HB := n2_; clear n0_ n1_ n2_; (try clear hb); (try clear hb2); (try clear hk); (try clear hi); (try clear ho0)) | ((with_reducible refine gate_dst (N := 3) rfl ?_); refine box_event ?hg (N := 3) ?hd (cs := #[.bool false, .slice none 0 0, .int .i64 0]) (t := 24) ?hr ?_; (case hd => rfl); (case hg => rfl); (case hr => first | (go_simp; done) | (go_simp; rfl)); intro gb236 hg w10 hbox hb; have n0_ := Aside0.mk (Kd.R_below (by (with_reducible repeat (first | apply Kd.R_alloc | apply Kd.R_drewN | apply Kd.R_drew)); exact HO233.out) hb); have n1_ := Aside0.mk (blk_below (g := gb229) (o := .cells #[.int .i64 a0_0, .int .i64 a0_1] 40 (0, 0)) (by (with_reducible repeat (first | refine blk_drewN ?_ _ | refine blk_drew ?_ | refine blk_alloc ?_ _)); exact BK229.out) hb); have n2_ := Aside0.mk (below_step (by repeat (first | (with_reducible first | exact HB.out | apply below_alloc | apply pw_below_drewN | apply below_drew1 | refine below_set ?_ GE229.out) | exact HB.out)) hb); have n3_ := Aside0.mk (hbox); have n4_ := Aside0.mk ((by rw [hg]; exact (below_size (by repeat (first | (with_reducible first | exact HB.out | apply below_alloc | apply pw_below_drewN | apply below_drew1 | refine below_set ?_ GE229.out) | exact HB.out))) : w.heap.size ≤ gb236)); have n5_ := Aside0.mk ((by rw [hg]; exact (below_size (by repeat (first | (with_reducible first | exact HB.out | apply below_alloc | apply pw_below_drewN | apply below_drew1 | refine below_set ?_ GE229.out) | exact HB.out))) : w.heap.size ≤ gb236)); have n6_ := Aside0.mk ((by rw [hg]; exact Nat.ne_of_lt (blk_lt (g := gb229) (o := .cells #[.int .i64 a0_0, .int .i64 a0_1] 40 (0, 0)) (by (with_reducible repeat (first | refine blk_drewN ?_ _ | refine blk_drew ?_ | refine blk_alloc ?_ _)); exact BK229.out)) : gb229 ≠ gb236)); have n7_ := Aside0.mk ((by rw [hg]; exact Nat.ne_of_gt (blk_lt (g := gb229) (o := .cells #[.int .i64 a0_0, .int .i64 a0_1] 40 (0, 0)) (by (with_reducible repeat (first | refine blk_drewN ?_ _ | refine blk_drew ?_ | refine blk_alloc ?_ _)); exact BK229.out)) : gb236 ≠ gb229)); clear HO233; clear BK229; clear HB; have HO233 := n0_; have BK229 := n1_; have HB := n2_; have BK236 := n3_; have GW236 := n4_; have GE236 := n5_; have NB229_236 := n6_; have NB236_229 := n7_; clear n0_ n1_ n2_ n3_ n4_ n5_ n6_ n7_; clear hb hbox hg; have hnb11 := NB236_229.out; have hnc11 := NB229_236.out; have hcz12_0 : w10.cell? ⟨gb236, 0, none⟩ = some (.bool false) := (blk_cell BK236.out 0).trans rfl; have hcz12_1 : w10.cell? ⟨gb236, 1, none⟩ = some (.slice none 0 0) := (blk_cell BK236.out 1).trans rfl; have hcz12_2 : w10.cell? ⟨gb236, 2, none⟩ = some (.int .i64 0) := (blk_cell BK236.out 2).trans rfl; have hfz12_0 := blk_frozen BK236.out 0; have hfz12_1 := blk_frozen BK236.out 1; have hfz12_2 := blk_frozen BK236.out 2; obtain ⟨Ao13, co13, eo13⟩ := Kd.R_slice HO233.out; subst eo13; have hcz14_0 : w10.cell? ⟨gb229, 0, none⟩ = some (.int .i64 a0_0) := (blk_cell BK229.out 0).trans rfl; have hcz14_1 : w10.cell? ⟨gb229, 1, none⟩ = some (.int .i64 a0_1) := (blk_cell BK229.out 1).trans rfl; have hfz14_0 := blk_frozen BK229.out 0; have hfz14_1 := blk_frozen BK229.out 1) | ((with_reducible refine gate_callee (f := 24) rfl ?_); refine goesL_ (some 18) rfl rfl Try.func24 (by kernel_rfl) rfl #[.agg #[.int .i64 a0_0, .int .i64 a0_1]] rfl (by (try simp only [List.map_toArray, List.map_cons, List.map_nil]); first | done | rfl | (simp only [List.length_drop, List.length_take]; rfl)) ?_; (with_reducible refine (impl_AmountInt.calls k a0_0 a0_1 t237 t238 _ A4.out).mono ?_); rintro e w15 ⟨rfl, hb⟩; refine ⟨_, rfl, ?_⟩; have n0_ := Aside0.mk (Kd.R_below (by (with_reducible repeat (first | apply Kd.R_alloc | apply Kd.R_drewN | apply Kd.R_drew)); exact (Kd.R_mono (Kd.R_far (p := ⟨gb236, 2, none⟩) (Kd.R_far (p := ⟨gb236, 1, none⟩) (Kd.R_far (p := ⟨gb236, 0, none⟩) (Kd.R_types HO233.out BK236.out (by decide)) (fun _ hk => hk.2) (.bool t230)) (fun _ hk => hk.2) (.slice Ao13 t231.length co13)) (fun _ hk => hk.2) (.int .i64 t234)) (fun _ h_ => h_.1))) hb); have n1_ := Aside0.mk (blk_below (g := gb229) (o := .cells #[.int .i64 a0_0, .int .i64 a0_1] 40 (0, 0)) (by (with_reducible repeat (first | refine blk_drewN ?_ _ | refine blk_drew ?_ | refine blk_alloc ?_ _)); refine blk_far ?_ NB229_236.out _; (with_reducible repeat (first | refine blk_drewN ?_ _ | refine blk_drew ?_ | refine blk_alloc ?_ _)); refine blk_far ?_ NB229_236.out _; (with_reducible repeat (first | refine blk_drewN ?_ _ | refine blk_drew ?_ | refine blk_alloc ?_ _)); refine blk_far ?_ NB229_236.out _; (with_reducible repeat (first | refine blk_drewN ?_ _ | refine blk_drew ?_ | refine blk_alloc ?_ _)); exact BK229.out) hb); have n2_ := Aside0.mk (blk_below (g := gb236) (o := .cells #[.bool t230, .slice Ao13 t231.length co13, .int .i64 t234] 24 (0, 0)) (by (with_reducible repeat (first | refine blk_drewN ?_ _ | refine blk_drew ?_ | refine blk_alloc ?_ _)); refine blk_put (cs := #[.bool t230, .slice Ao13 t231.length co13, .int .i64 0]) ?_ 2 _ rfl; (with_reducible repeat (first | refine blk_drewN ?_ _ | refine blk_drew ?_ | refine blk_alloc ?_ _)); refine blk_put (cs := #[.bool t230, .slice none 0 0, .int .i64 0]) ?_ 1 _ rfl; (with_reducible repeat (first | refine blk_drewN ?_ _ | refine blk_drew ?_ | refine blk_alloc ?_ _)); refine blk_put (cs := #[.bool false, .slice none 0 0, .int .i64 0]) ?_ 0 _ rfl; (with_reducible repeat (first | refine blk_drewN ?_ _ | refine blk_drew ?_ | refine blk_alloc ?_ _)); exact BK236.out) hb); have n3_ := Aside0.mk (below_step (by repeat (first | (with_reducible first | exact HB.out | apply below_alloc | apply pw_below_drewN | apply below_drew1 | refine below_set ?_ GE229.out | refine below_set ?_ GE236.out) | exact HB.out)) hb); clear HO233; clear BK229; clear BK236; clear HB; have HO233 := n0_; have BK229 := n1_; have BK236 := n2_; have HB := n3_; clear n0_ n1_ n2_ n3_; (try clear hb); (try clear hb2); (try clear hk); (try clear hi); have hcz16_0 : w15.cell? ⟨gb236, 0, none⟩ = some (.bool t230) := (blk_cell BK236.out 0).trans rfl; have hcz16_1 : w15.cell? ⟨gb236, 1, none⟩ = some (.slice Ao13 t231.length co13) := (blk_cell BK236.out 1).trans rfl; have hcz16_2 : w15.cell? ⟨gb236, 2, none⟩ = some (.int .i64 t234) := (blk_cell BK236.out 2).trans rfl; have hfz16_0 := blk_frozen BK236.out 0; have hfz16_1 := blk_frozen BK236.out 1; have hfz16_2 := blk_frozen BK236.out 2) | ((with_reducible refine gate_callee (f := 25) rfl ?_); refine goesL_ (some 23) rfl rfl Try.func25 (by kernel_rfl) rfl #[.agg #[.bool t230, .slice Ao13 t231.length co13, .int .i64 t234]] rfl (by (try simp only [List.map_toArray, List.map_cons, List.map_nil]); first | done | rfl | (simp only [List.length_drop, List.length_take]; rfl)) ?_; (with_reducible refine (spec_DecimalInt.calls k t230 _ _ t231 t234 t239 t240 _ ?side1 ?side2 A5.out).mono ?_); (case side1 => repeat (first | exact (Kd.R_reads' HO233.out).2.2 | (with_reducible refine Kd.C_alloc ?_ _) | (with_reducible refine Kd.C_drewN ?_ _) | (with_reducible refine Kd.C_drew ?_))); (case side2 => exact (Kd.R_reads' HO233.out).2.1); rintro e w17 ⟨rfl, hb⟩; refine ⟨_, rfl, ?_⟩; have n0_ := Aside0.mk (Kd.R_below (by (with_reducible repeat (first | apply Kd.R_alloc | apply Kd.R_drewN | apply Kd.R_drew)); exact HO233.out) hb); have n1_ := Aside0.mk (blk_below (g := gb229) (o := .cells #[.int .i64 a0_0, .int .i64 a0_1] 40 (0, 0)) (by (with_reducible repeat (first | refine blk_drewN ?_ _ | refine blk_drew ?_ | refine blk_alloc ?_ _)); exact BK229.out) hb); have n2_ := Aside0.mk (blk_below (g := gb236) (o := .cells #[.bool t230, .slice Ao13 t231.length co13, .int .i64 t234] 24 (0, 0)) (by (with_reducible repeat (first | refine blk_drewN ?_ _ | refine blk_drew ?_ | refine blk_alloc ?_ _)); exact BK236.out) hb); have n3_ := Aside0.mk (below_step (by repeat (first | (with_reducible first | exact HB.out | apply below_alloc | apply pw_below_drewN | apply below_drew1 | refine below_set ?_ GE229.out | refine below_set ?_ GE236.out) | exact HB.out)) hb); clear HO233; clear BK229; clear BK236; clear HB; have HO233 := n0_; have BK229 := n1_; have BK236 := n2_; have HB := n3_; clear n0_ n1_ n2_ n3_; (try clear hb); (try clear hb2); (try clear hk); (try clear hi)))
    (try simp only [Act.put, List.setIfInBounds_toArray, List.set_cons_zero, List.set_cons_succ])
    go_cut [44] (fun v44 wc => ∃ (kq : Nat) (x44_5 : Bool), v44 = .bool x44_5 ∧ Aside0 (laws_FnAmountSign.j0 kq x44_5 a0_0 a0_1 t230 t231 t234 = some r) ∧ Aside0 (kq ≤ k) ∧ Aside0 (Kd.R (Kd.int .i64) 3 wc w.heap.size (fun _ => True) (.slice Ao13 t231.length co13) t231) ∧ Aside0 (wc.heap[gb229]? = some (.cells #[.int .i64 a0_0, .int .i64 a0_1] 40 (0, 0))) ∧ Aside0 (wc.heap[gb236]? = some (.cells #[.bool t230, (.slice Ao13 t231.length co13), .int .i64 t234] 24 (0, 0))) ∧ Aside0 (Below w.heap.size w wc))
    case first =>
      have H := HC6.out
      clear HC6
      by_cases c18 : t238 = true
      · subst c18
        have H1 : (if t240 = true then (if t237 = t239 then (laws_FnAmountSign.j0 k false a0_0 a0_1 t230 t231 t234) else (laws_FnAmountSign.j0 k true a0_0 a0_1 t230 t231 t234)) else (laws_FnAmountSign.j0 k true a0_0 a0_1 t230 t231 t234)) = some r := by rw [if_pos rfl] at H; exact H
        clear H
        have H := H1
        clear H1
        by_cases c19 : t240 = true
        · subst c19
          have H1 : (if t237 = t239 then (laws_FnAmountSign.j0 k false a0_0 a0_1 t230 t231 t234) else (laws_FnAmountSign.j0 k true a0_0 a0_1 t230 t231 t234)) = some r := by rw [if_pos rfl] at H; exact H
          clear H
          have H := H1
          clear H1
          by_cases c20 : t237 = t239
          · rw [if_pos c20] at H
            have c20b0 : (t237 == t239) = true := beq_iff_eq.mpr c20
            have c20b1 : (t237 != t239) = false := bne_eq_false_iff_eq.mpr c20
            clear c20
            (first | rw [c20b0] | (simp only [i64_w, i32_w]; rw [c20b0]) | skip)
            have H' := Aside0.mk H
            clear H
            go_wp2
            go_meet
            case rel => exact ⟨_, (false), (by first | rfl | (simp; done) | (simp [*]; done)), H', ⟨by first | omega | exact Nat.le_refl _⟩, ⟨by (with_reducible repeat (first | apply Kd.R_alloc | apply Kd.R_drewN | apply Kd.R_drew)); exact HO233.out⟩, ⟨by (with_reducible repeat (first | refine blk_drewN ?_ _ | refine blk_drew ?_ | refine blk_alloc ?_ _)); exact BK229.out⟩, ⟨by (with_reducible repeat (first | refine blk_drewN ?_ _ | refine blk_drew ?_ | refine blk_alloc ?_ _)); exact BK236.out⟩, ⟨by repeat (first | (with_reducible first | exact HB.out | apply below_alloc | apply pw_below_drewN | apply below_drew1 | refine below_set ?_ GE229.out | refine below_set ?_ GE236.out) | exact HB.out)⟩⟩
          · rw [if_neg c20] at H
            have c20b0 : (t237 == t239) = false := beq_eq_false_iff_ne.mpr c20
            have c20b1 : (t237 != t239) = true := bne_iff_ne.mpr c20
            (first | rw [c20b0] | (simp only [i64_w, i32_w]; rw [c20b0]) | skip)
            have H' := Aside0.mk H
            clear H
            go_wp2
            go_meet
            case rel => exact ⟨_, (true), (by first | rfl | (simp; done) | (simp [*]; done)), H', ⟨by first | omega | exact Nat.le_refl _⟩, ⟨by (with_reducible repeat (first | apply Kd.R_alloc | apply Kd.R_drewN | apply Kd.R_drew)); exact HO233.out⟩, ⟨by (with_reducible repeat (first | refine blk_drewN ?_ _ | refine blk_drew ?_ | refine blk_alloc ?_ _)); exact BK229.out⟩, ⟨by (with_reducible repeat (first | refine blk_drewN ?_ _ | refine blk_drew ?_ | refine blk_alloc ?_ _)); exact BK236.out⟩, ⟨by repeat (first | (with_reducible first | exact HB.out | apply below_alloc | apply pw_below_drewN | apply below_drew1 | refine below_set ?_ GE229.out | refine below_set ?_ GE236.out) | exact HB.out)⟩⟩
        · replace c19 := Bool.eq_false_iff.mpr c19
          subst c19
          have H1 : (laws_FnAmountSign.j0 k true a0_0 a0_1 t230 t231 t234) = some r := by rw [if_neg (show ¬ (false = true) by decide)] at H; exact H
          clear H
          have H := H1
          clear H1
          have H' := Aside0.mk H
          clear H
          go_wp2
          go_meet
          case rel => exact ⟨_, (true), (by first | rfl | (simp; done) | (simp [*]; done)), H', ⟨by first | omega | exact Nat.le_refl _⟩, ⟨by (with_reducible repeat (first | apply Kd.R_alloc | apply Kd.R_drewN | apply Kd.R_drew)); exact HO233.out⟩, ⟨by (with_reducible repeat (first | refine blk_drewN ?_ _ | refine blk_drew ?_ | refine blk_alloc ?_ _)); exact BK229.out⟩, ⟨by (with_reducible repeat (first | refine blk_drewN ?_ _ | refine blk_drew ?_ | refine blk_alloc ?_ _)); exact BK236.out⟩, ⟨by repeat (first | (with_reducible first | exact HB.out | apply below_alloc | apply pw_below_drewN | apply below_drew1 | refine below_set ?_ GE229.out | refine below_set ?_ GE236.out) | exact HB.out)⟩⟩
      · replace c18 := Bool.eq_false_iff.mpr c18
        subst c18
        have H1 : (laws_FnAmountSign.j0 k (a0_1 == 0) a0_0 a0_1 t230 t231 t234) = some r := by rw [if_neg (show ¬ (false = true) by decide)] at H; exact H
        clear H
        have H := H1
        clear H1
        have H' := Aside0.mk H
        clear H
        have hnb21 := NB229_236.out
        have hnc21 := NB236_229.out
        have hcz22_0 : w17.cell? ⟨gb229, 0, none⟩ = some (.int .i64 a0_0) := (blk_cell BK229.out 0).trans rfl
        have hcz22_1 : w17.cell? ⟨gb229, 1, none⟩ = some (.int .i64 a0_1) := (blk_cell BK229.out 1).trans rfl
        have hfz22_0 := blk_frozen BK229.out 0
        have hfz22_1 := blk_frozen BK229.out 1
        go_wp2
        go_meet
        case rel => exact ⟨_, ((a0_1 == 0)), (by first | rfl | (simp; done) | (simp [*]; done)), H', ⟨by first | omega | exact Nat.le_refl _⟩, ⟨by (with_reducible repeat (first | apply Kd.R_alloc | apply Kd.R_drewN | apply Kd.R_drew)); exact HO233.out⟩, ⟨by (with_reducible repeat (first | refine blk_drewN ?_ _ | refine blk_drew ?_ | refine blk_alloc ?_ _)); exact BK229.out⟩, ⟨by (with_reducible repeat (first | refine blk_drewN ?_ _ | refine blk_drew ?_ | refine blk_alloc ?_ _)); exact BK236.out⟩, ⟨by repeat (first | (with_reducible first | exact HB.out | apply below_alloc | apply pw_below_drewN | apply below_drew1 | refine below_set ?_ GE229.out | refine below_set ?_ GE236.out) | exact HB.out)⟩⟩
    case rest =>
      clear HC6
      try clear c1
      try clear c2
      try clear p2
      try clear c3
      try clear c7
      try clear c11
      try clear c18
      try clear c19
      try clear c20
      try clear c20b0
      try clear c20b1
      try clear c21
      try clear hcz12_0
      try clear hcz12_1
      try clear hcz12_2
      try clear hcz14_0
      try clear hcz14_1
      try clear hcz16_0
      try clear hcz16_1
      try clear hcz16_2
      try clear hcz22_0
      try clear hcz22_1
      try clear hcz8_0
      try clear hcz8_1
      try clear hfz12_0
      try clear hfz12_1
      try clear hfz12_2
      try clear hfz14_0
      try clear hfz14_1
      try clear hfz16_0
      try clear hfz16_1
      try clear hfz16_2
      try clear hfz22_0
      try clear hfz22_1
      try clear hfz8_0
      try clear hfz8_1
      obtain ⟨kq, x44_5, rfl, HA, HJ5, HO_237001, BK229, BK236, HB⟩ := hcut
      cases kq with
      | zero => exact absurd HA.out (by simp [laws_FnAmountSign.j0])
      | succ kj5 =>
        have H := HA.out
        clear HA
        simp only [laws_FnAmountSign.j0] at H
        by_cases c23 : x44_5 = true
        · subst c23
          have H1 : (some false) = some r := by rw [if_pos rfl] at H; exact H
          clear H
          have H := H1
          clear H1
          obtain rfl := Option.some.inj H
          go_wp2
          go_ret
          exact ⟨by first | rfl | (simp [errW_none, errW_some] <;> rfl) | (simp [*, errW_none, errW_some] <;> rfl), by repeat (first | (with_reducible first | exact HB.out | apply below_alloc | apply pw_below_drewN | apply below_drew1 | refine below_set ?_ GE229.out | refine below_set ?_ GE236.out) | exact HB.out)⟩
        · replace c23 := Bool.eq_false_iff.mpr c23
          subst c23
          have H1 : ((impl_AmountSign.f a0_0 a0_1).bind fun t241 => ((spec_DecimalSign.f t230 t231 t234).bind fun t242 => (if t241 = t242 then ((laws_amountAwake.f kj5).bind fun t243 => (some t243)) else (some false)))) = some r := by rw [if_neg (show ¬ (false = true) by decide)] at H; exact H
          clear H
          have H := H1
          clear H1
          replace H := Option.bind_eq_some_iff.mp H
          obtain ⟨t241, A240, H⟩ := H
          replace H : ((spec_DecimalSign.f t230 t231 t234).bind fun t242 => (if t241 = t242 then ((laws_amountAwake.f kj5).bind fun t243 => (some t243)) else (some false))) = some r := H
          have A24 := Aside0.mk A240
          clear A240
          replace H := Option.bind_eq_some_iff.mp H
          obtain ⟨t242, A250, H⟩ := H
          replace H : (if t241 = t242 then ((laws_amountAwake.f kj5).bind fun t243 => (some t243)) else (some false)) = some r := H
          have A25 := Aside0.mk A250
          clear A250
          by_cases c26 : t241 = t242
          · rw [if_pos c26] at H
            have c26b0 : (t241 == t242) = true := beq_iff_eq.mpr c26
            have c26b1 : (t241 != t242) = false := bne_eq_false_iff_eq.mpr c26
            clear c26
            replace H := Option.bind_eq_some_iff.mp H
            obtain ⟨t243, A270, H⟩ := H
            replace H : (some t243) = some r := H
            have A27 := Aside0.mk A270
            clear A270
            obtain rfl := Option.some.inj H
            try go_wp2
            have n0_ := Aside0.mk (Kd.R_drew HO_237001.out)
            have n1_ := Aside0.mk (blk_drew BK229.out)
            have n2_ := Aside0.mk (blk_drew BK236.out)
            have n3_ := Aside0.mk (below_drew1 HB.out)
            clear HO_237001
            clear BK229
            clear BK236
            clear HB
            have HO_237001 := n0_
            have BK229 := n1_
            have BK236 := n2_
            have HB := n3_
            clear n0_ n1_ n2_ n3_
            refine start_ (n := 9) (S := fun w' => w'.cell? ⟨gb229, 0, none⟩ = some (.int .i64 a0_0) ∧ w'.cell? ⟨gb229, 1, none⟩ = some (.int .i64 a0_1) ∧ w'.cell? ⟨gb236, 0, none⟩ = some (.bool t230) ∧ w'.cell? ⟨gb236, 1, none⟩ = some (.slice Ao13 t231.length co13) ∧ w'.cell? ⟨gb236, 2, none⟩ = some (.int .i64 t234)) (ds := []) #[false, false, false, false, false, false, false, false, false] (by kernel_rfl) rfl rfl ⟨(blk_cell BK229.out 0).trans rfl, (blk_cell BK229.out 1).trans rfl, (blk_cell BK236.out 0).trans rfl, (blk_cell BK236.out 1).trans rfl, (blk_cell BK236.out 2).trans rfl⟩ (fun hHeld => ?_); refine with_tabW laws_FnAmountSign.tab8 laws_FnAmountSign.bits8 (fun HT_ HW_ => ?_)
            generalize wc.drew = w28 at HO_237001 BK229 BK236 HB hHeld ⊢
            refine take_ (i := 0) (N := some 45) (v := ?_) (a' := ?_) #[true, false, false, false, false, false, false, false, false] rfl rfl (take_ofW HT_.out HW_.out (by kernel_rfl)) (fun _ _ _ h => h) (Or.inl ⟨by rfl, ?_⟩) hHeld ?_ ?_
            rotate_left
            · rintro w' ⟨s0, s1, s2, s3, s4⟩
              go_simp
              with_reducible rfl
            rotate_left
            · simp only [Act.put, List.setIfInBounds_toArray, List.set_cons_zero, List.set_cons_succ, i64_w, i32_w]
              rfl
            refine take_ (i := 2) (N := some 47) (v := ?_) (a' := ?_) #[true, false, true, false, false, false, false, false, false] rfl rfl (take_ofW HT_.out HW_.out (by kernel_rfl)) (fun _ _ _ h => h) (Or.inl ⟨by rfl, ?_⟩) hHeld ?_ ?_
            rotate_left
            · rintro w' ⟨s0, s1, s2, s3, s4⟩
              go_simp
              with_reducible rfl
            rotate_left
            · simp only [Act.put, List.setIfInBounds_toArray, List.set_cons_zero, List.set_cons_succ, i64_w, i32_w]
              rfl
            refine one_ (i := 1) (N := some 46) #[true, true, true, false, false, false, false, false, false] rfl rfl (one_of HT_.out (by kernel_rfl)) (by decide) (fun K hK => ?_)
            refine goes_ Try.func26 (by kernel_rfl) rfl #[.agg #[.int .i64 a0_0, .int .i64 a0_1]] (by rfl) rfl rfl (by (try simp only [List.map_toArray, List.map_cons, List.map_nil]); first | done | rfl | (simp only [List.length_drop, List.length_take]; rfl)) ?_
            with_reducible refine (impl_AmountSign.calls a0_0 a0_1 t241 _ A24.out).mono ?_
            rintro e w29 ⟨rfl, hb⟩
            refine ⟨_, rfl, ?_⟩
            have n0_ := Aside0.mk (Kd.R_below (by (with_reducible repeat (first | apply Kd.R_alloc | apply Kd.R_drewN | apply Kd.R_drew)); exact HO_237001.out) hb)
            have n1_ := Aside0.mk (blk_below (g := gb229) (o := .cells #[.int .i64 a0_0, .int .i64 a0_1] 40 (0, 0)) (by (with_reducible repeat (first | refine blk_drewN ?_ _ | refine blk_drew ?_ | refine blk_alloc ?_ _)); exact BK229.out) hb)
            have n2_ := Aside0.mk (blk_below (g := gb236) (o := .cells #[.bool t230, .slice Ao13 t231.length co13, .int .i64 t234] 24 (0, 0)) (by (with_reducible repeat (first | refine blk_drewN ?_ _ | refine blk_drew ?_ | refine blk_alloc ?_ _)); exact BK236.out) hb)
            have n3_ := Aside0.mk (below_step (by repeat (first | (with_reducible first | exact HB.out | apply below_alloc | apply pw_below_drewN | apply below_drew1 | refine below_set ?_ GE229.out | refine below_set ?_ GE236.out) | exact HB.out)) hb)
            clear HO_237001
            clear BK229
            clear BK236
            clear HB
            have HO_237001 := n0_
            have BK229 := n1_
            have BK236 := n2_
            have HB := n3_
            clear n0_ n1_ n2_ n3_
            (try clear hb)
            (try clear hb2)
            (try clear hk)
            (try clear hi)
            refine hK.out _ _ ⟨(blk_cell BK229.out 0).trans rfl, (blk_cell BK229.out 1).trans rfl, (blk_cell BK236.out 0).trans rfl, (blk_cell BK236.out 1).trans rfl, (blk_cell BK236.out 2).trans rfl⟩ (fun hHeld => ?_)
            clear hK K
            refine norm_ (a' := ?_) ?_ ?_
            rotate_left
            · show Act.put _ (some 46) _ = _
              simp only [Act.put, List.setIfInBounds_toArray, List.set_cons_zero, List.set_cons_succ, i64_w, i32_w]
              rfl
            refine one_ (i := 3) (N := some 48) #[true, true, true, true, false, false, false, false, false] rfl rfl (one_of HT_.out (by kernel_rfl)) (by decide) (fun K hK => ?_)
            refine goes_ Try.func27 (by kernel_rfl) rfl #[.agg #[.bool t230, .slice Ao13 t231.length co13, .int .i64 t234]] (by rfl) rfl rfl (by (try simp only [List.map_toArray, List.map_cons, List.map_nil]); first | done | rfl | (simp only [List.length_drop, List.length_take]; rfl)) ?_
            with_reducible refine (spec_DecimalSign.calls t230 _ _ t231 t234 t242 _ ?side1 ?side2 A25.out).mono ?_
            (case side1 => repeat (first | exact (Kd.R_reads' HO_237001.out).2.2 | (with_reducible refine Kd.C_alloc ?_ _) | (with_reducible refine Kd.C_drewN ?_ _) | (with_reducible refine Kd.C_drew ?_)))
            (case side2 => exact (Kd.R_reads' HO_237001.out).2.1)
            rintro e w30 ⟨rfl, hb⟩
            refine ⟨_, rfl, ?_⟩
            have n0_ := Aside0.mk (Kd.R_below (by (with_reducible repeat (first | apply Kd.R_alloc | apply Kd.R_drewN | apply Kd.R_drew)); exact HO_237001.out) hb)
            have n1_ := Aside0.mk (blk_below (g := gb229) (o := .cells #[.int .i64 a0_0, .int .i64 a0_1] 40 (0, 0)) (by (with_reducible repeat (first | refine blk_drewN ?_ _ | refine blk_drew ?_ | refine blk_alloc ?_ _)); exact BK229.out) hb)
            have n2_ := Aside0.mk (blk_below (g := gb236) (o := .cells #[.bool t230, .slice Ao13 t231.length co13, .int .i64 t234] 24 (0, 0)) (by (with_reducible repeat (first | refine blk_drewN ?_ _ | refine blk_drew ?_ | refine blk_alloc ?_ _)); exact BK236.out) hb)
            have n3_ := Aside0.mk (below_step (by repeat (first | (with_reducible first | exact HB.out | apply below_alloc | apply pw_below_drewN | apply below_drew1 | refine below_set ?_ GE229.out | refine below_set ?_ GE236.out) | exact HB.out)) hb)
            clear HO_237001
            clear BK229
            clear BK236
            clear HB
            have HO_237001 := n0_
            have BK229 := n1_
            have BK236 := n2_
            have HB := n3_
            clear n0_ n1_ n2_ n3_
            (try clear hb)
            (try clear hb2)
            (try clear hk)
            (try clear hi)
            refine hK.out _ _ ⟨(blk_cell BK229.out 0).trans rfl, (blk_cell BK229.out 1).trans rfl, (blk_cell BK236.out 0).trans rfl, (blk_cell BK236.out 1).trans rfl, (blk_cell BK236.out 2).trans rfl⟩ (fun hHeld => ?_)
            clear hK K
            refine norm_ (a' := ?_) ?_ ?_
            rotate_left
            · show Act.put _ (some 48) _ = _
              simp only [Act.put, List.setIfInBounds_toArray, List.set_cons_zero, List.set_cons_succ, i64_w, i32_w]
              rfl
            refine pure_ (i := 4) (N := some 49) (v := ?_) (a' := ?_) #[true, true, true, true, true, false, false, false, false] rfl rfl (any_of HT_.out (by kernel_rfl)) (fun _ _ _ h => h) (Or.inl ⟨by rfl, ?_⟩) ?_ ?_
            rotate_left
            · intro w'
              go_simp
              with_reducible rfl
            rotate_left
            · simp only [Act.put, List.setIfInBounds_toArray, List.set_cons_zero, List.set_cons_succ, i64_w, i32_w]
              rfl
            refine pure_ (i := 5) (N := some 50) (v := ?_) (a' := ?_) #[true, true, true, true, true, true, false, false, false] rfl rfl (any_of HT_.out (by kernel_rfl)) (fun _ _ _ h => h) (Or.inl ⟨by rfl, ?_⟩) ?_ ?_
            rotate_left
            · intro w'
              go_simp
              with_reducible rfl
            rotate_left
            · simp only [Act.put, List.setIfInBounds_toArray, List.set_cons_zero, List.set_cons_succ, i64_w, i32_w]
              rfl
            refine one_ (i := 6) (N := some 51) #[true, true, true, true, true, true, true, false, false] rfl rfl (one_of HT_.out (by kernel_rfl)) (by decide) (fun K hK => ?_)
            refine goes_ Try.func23 (by kernel_rfl) rfl #[] (by rfl) rfl rfl (by (try simp only [List.map_toArray, List.map_cons, List.map_nil]); first | done | rfl | (simp only [List.length_drop, List.length_take]; rfl)) ?_
            with_reducible refine (laws_amountAwake.calls kj5  t243 _ A27.out).mono ?_
            rintro e w31 ⟨rfl, hb⟩
            refine ⟨_, rfl, ?_⟩
            have n0_ := Aside0.mk (Kd.R_below (by (with_reducible repeat (first | apply Kd.R_alloc | apply Kd.R_drewN | apply Kd.R_drew)); exact HO_237001.out) hb)
            have n1_ := Aside0.mk (blk_below (g := gb229) (o := .cells #[.int .i64 a0_0, .int .i64 a0_1] 40 (0, 0)) (by (with_reducible repeat (first | refine blk_drewN ?_ _ | refine blk_drew ?_ | refine blk_alloc ?_ _)); exact BK229.out) hb)
            have n2_ := Aside0.mk (blk_below (g := gb236) (o := .cells #[.bool t230, .slice Ao13 t231.length co13, .int .i64 t234] 24 (0, 0)) (by (with_reducible repeat (first | refine blk_drewN ?_ _ | refine blk_drew ?_ | refine blk_alloc ?_ _)); exact BK236.out) hb)
            have n3_ := Aside0.mk (below_step (by repeat (first | (with_reducible first | exact HB.out | apply below_alloc | apply pw_below_drewN | apply below_drew1 | refine below_set ?_ GE229.out | refine below_set ?_ GE236.out) | exact HB.out)) hb)
            clear HO_237001
            clear BK229
            clear BK236
            clear HB
            have HO_237001 := n0_
            have BK229 := n1_
            have BK236 := n2_
            have HB := n3_
            clear n0_ n1_ n2_ n3_
            (try clear hb)
            (try clear hb2)
            (try clear hk)
            (try clear hi)
            refine hK.out _ _ ⟨(blk_cell BK229.out 0).trans rfl, (blk_cell BK229.out 1).trans rfl, (blk_cell BK236.out 0).trans rfl, (blk_cell BK236.out 1).trans rfl, (blk_cell BK236.out 2).trans rfl⟩ (fun hHeld => ?_)
            clear hK K
            refine norm_ (a' := ?_) ?_ ?_
            rotate_left
            · show Act.put _ (some 51) _ = _
              simp only [Act.put, List.setIfInBounds_toArray, List.set_cons_zero, List.set_cons_succ, i64_w, i32_w]
              rfl
            refine pure_ (i := 7) (N := some 52) (v := ?_) (a' := ?_) #[true, true, true, true, true, true, true, true, false] rfl rfl (any_of HT_.out (by kernel_rfl)) (fun _ _ _ h => h) (Or.inl ⟨by rfl, ?_⟩) ?_ ?_
            rotate_left
            · intro w'
              go_simp
              with_reducible rfl
            rotate_left
            · simp only [Act.put, List.setIfInBounds_toArray, List.set_cons_zero, List.set_cons_succ, i64_w, i32_w]
              rfl
            refine pure_ (i := 8) (N := some 2) (v := ?_) (a' := ?_) #[true, true, true, true, true, true, true, true, true] rfl rfl (any_of HT_.out (by kernel_rfl)) (fun _ _ _ h => h) (Or.inl ⟨by rfl, ?_⟩) ?_ ?_
            rotate_left
            · intro w'
              go_simp
              with_reducible rfl
            rotate_left
            · simp only [Act.put, List.setIfInBounds_toArray, List.set_cons_zero, List.set_cons_succ, i64_w, i32_w]
              rfl
            refine done_ (done_of HT_.out (by kernel_rfl)) ?_
            try go_wp2
            go_ret
            exact ⟨by first | rfl | (simp [errW_none, errW_some] <;> rfl) | (simp [*, errW_none, errW_some] <;> rfl), by repeat (first | (with_reducible first | exact HB.out | apply below_alloc | apply pw_below_drewN | apply below_drew1 | refine below_set ?_ GE229.out | refine below_set ?_ GE236.out) | exact HB.out)⟩
          · rw [if_neg c26] at H
            have c26b0 : (t241 == t242) = false := beq_eq_false_iff_ne.mpr c26
            have c26b1 : (t241 != t242) = true := bne_iff_ne.mpr c26
            obtain rfl := Option.some.inj H
            try go_wp2
            have n0_ := Aside0.mk (Kd.R_drew HO_237001.out)
            have n1_ := Aside0.mk (blk_drew BK229.out)
            have n2_ := Aside0.mk (blk_drew BK236.out)
            have n3_ := Aside0.mk (below_drew1 HB.out)
            clear HO_237001
            clear BK229
            clear BK236
            clear HB
            have HO_237001 := n0_
            have BK229 := n1_
            have BK236 := n2_
            have HB := n3_
            clear n0_ n1_ n2_ n3_
            refine start_ (n := 9) (S := fun w' => w'.cell? ⟨gb229, 0, none⟩ = some (.int .i64 a0_0) ∧ w'.cell? ⟨gb229, 1, none⟩ = some (.int .i64 a0_1) ∧ w'.cell? ⟨gb236, 0, none⟩ = some (.bool t230) ∧ w'.cell? ⟨gb236, 1, none⟩ = some (.slice Ao13 t231.length co13) ∧ w'.cell? ⟨gb236, 2, none⟩ = some (.int .i64 t234)) (ds := []) #[false, false, false, false, false, false, false, false, false] (by kernel_rfl) rfl rfl ⟨(blk_cell BK229.out 0).trans rfl, (blk_cell BK229.out 1).trans rfl, (blk_cell BK236.out 0).trans rfl, (blk_cell BK236.out 1).trans rfl, (blk_cell BK236.out 2).trans rfl⟩ (fun hHeld => ?_); refine with_tabW laws_FnAmountSign.tab8 laws_FnAmountSign.bits8 (fun HT_ HW_ => ?_)
            generalize wc.drew = w32 at HO_237001 BK229 BK236 HB hHeld ⊢
            refine take_ (i := 0) (N := some 45) (v := ?_) (a' := ?_) #[true, false, false, false, false, false, false, false, false] rfl rfl (take_ofW HT_.out HW_.out (by kernel_rfl)) (fun _ _ _ h => h) (Or.inl ⟨by rfl, ?_⟩) hHeld ?_ ?_
            rotate_left
            · rintro w' ⟨s0, s1, s2, s3, s4⟩
              go_simp
              with_reducible rfl
            rotate_left
            · simp only [Act.put, List.setIfInBounds_toArray, List.set_cons_zero, List.set_cons_succ, i64_w, i32_w]
              rfl
            refine take_ (i := 2) (N := some 47) (v := ?_) (a' := ?_) #[true, false, true, false, false, false, false, false, false] rfl rfl (take_ofW HT_.out HW_.out (by kernel_rfl)) (fun _ _ _ h => h) (Or.inl ⟨by rfl, ?_⟩) hHeld ?_ ?_
            rotate_left
            · rintro w' ⟨s0, s1, s2, s3, s4⟩
              go_simp
              with_reducible rfl
            rotate_left
            · simp only [Act.put, List.setIfInBounds_toArray, List.set_cons_zero, List.set_cons_succ, i64_w, i32_w]
              rfl
            refine one_ (i := 1) (N := some 46) #[true, true, true, false, false, false, false, false, false] rfl rfl (one_of HT_.out (by kernel_rfl)) (by decide) (fun K hK => ?_)
            refine goes_ Try.func26 (by kernel_rfl) rfl #[.agg #[.int .i64 a0_0, .int .i64 a0_1]] (by rfl) rfl rfl (by (try simp only [List.map_toArray, List.map_cons, List.map_nil]); first | done | rfl | (simp only [List.length_drop, List.length_take]; rfl)) ?_
            with_reducible refine (impl_AmountSign.calls a0_0 a0_1 t241 _ A24.out).mono ?_
            rintro e w33 ⟨rfl, hb⟩
            refine ⟨_, rfl, ?_⟩
            have n0_ := Aside0.mk (Kd.R_below (by (with_reducible repeat (first | apply Kd.R_alloc | apply Kd.R_drewN | apply Kd.R_drew)); exact HO_237001.out) hb)
            have n1_ := Aside0.mk (blk_below (g := gb229) (o := .cells #[.int .i64 a0_0, .int .i64 a0_1] 40 (0, 0)) (by (with_reducible repeat (first | refine blk_drewN ?_ _ | refine blk_drew ?_ | refine blk_alloc ?_ _)); exact BK229.out) hb)
            have n2_ := Aside0.mk (blk_below (g := gb236) (o := .cells #[.bool t230, .slice Ao13 t231.length co13, .int .i64 t234] 24 (0, 0)) (by (with_reducible repeat (first | refine blk_drewN ?_ _ | refine blk_drew ?_ | refine blk_alloc ?_ _)); exact BK236.out) hb)
            have n3_ := Aside0.mk (below_step (by repeat (first | (with_reducible first | exact HB.out | apply below_alloc | apply pw_below_drewN | apply below_drew1 | refine below_set ?_ GE229.out | refine below_set ?_ GE236.out) | exact HB.out)) hb)
            clear HO_237001
            clear BK229
            clear BK236
            clear HB
            have HO_237001 := n0_
            have BK229 := n1_
            have BK236 := n2_
            have HB := n3_
            clear n0_ n1_ n2_ n3_
            (try clear hb)
            (try clear hb2)
            (try clear hk)
            (try clear hi)
            refine hK.out _ _ ⟨(blk_cell BK229.out 0).trans rfl, (blk_cell BK229.out 1).trans rfl, (blk_cell BK236.out 0).trans rfl, (blk_cell BK236.out 1).trans rfl, (blk_cell BK236.out 2).trans rfl⟩ (fun hHeld => ?_)
            clear hK K
            refine norm_ (a' := ?_) ?_ ?_
            rotate_left
            · show Act.put _ (some 46) _ = _
              simp only [Act.put, List.setIfInBounds_toArray, List.set_cons_zero, List.set_cons_succ, i64_w, i32_w]
              rfl
            refine one_ (i := 3) (N := some 48) #[true, true, true, true, false, false, false, false, false] rfl rfl (one_of HT_.out (by kernel_rfl)) (by decide) (fun K hK => ?_)
            refine goes_ Try.func27 (by kernel_rfl) rfl #[.agg #[.bool t230, .slice Ao13 t231.length co13, .int .i64 t234]] (by rfl) rfl rfl (by (try simp only [List.map_toArray, List.map_cons, List.map_nil]); first | done | rfl | (simp only [List.length_drop, List.length_take]; rfl)) ?_
            with_reducible refine (spec_DecimalSign.calls t230 _ _ t231 t234 t242 _ ?side1 ?side2 A25.out).mono ?_
            (case side1 => repeat (first | exact (Kd.R_reads' HO_237001.out).2.2 | (with_reducible refine Kd.C_alloc ?_ _) | (with_reducible refine Kd.C_drewN ?_ _) | (with_reducible refine Kd.C_drew ?_)))
            (case side2 => exact (Kd.R_reads' HO_237001.out).2.1)
            rintro e w34 ⟨rfl, hb⟩
            refine ⟨_, rfl, ?_⟩
            have n0_ := Aside0.mk (Kd.R_below (by (with_reducible repeat (first | apply Kd.R_alloc | apply Kd.R_drewN | apply Kd.R_drew)); exact HO_237001.out) hb)
            have n1_ := Aside0.mk (blk_below (g := gb229) (o := .cells #[.int .i64 a0_0, .int .i64 a0_1] 40 (0, 0)) (by (with_reducible repeat (first | refine blk_drewN ?_ _ | refine blk_drew ?_ | refine blk_alloc ?_ _)); exact BK229.out) hb)
            have n2_ := Aside0.mk (blk_below (g := gb236) (o := .cells #[.bool t230, .slice Ao13 t231.length co13, .int .i64 t234] 24 (0, 0)) (by (with_reducible repeat (first | refine blk_drewN ?_ _ | refine blk_drew ?_ | refine blk_alloc ?_ _)); exact BK236.out) hb)
            have n3_ := Aside0.mk (below_step (by repeat (first | (with_reducible first | exact HB.out | apply below_alloc | apply pw_below_drewN | apply below_drew1 | refine below_set ?_ GE229.out | refine below_set ?_ GE236.out) | exact HB.out)) hb)
            clear HO_237001
            clear BK229
            clear BK236
            clear HB
            have HO_237001 := n0_
            have BK229 := n1_
            have BK236 := n2_
            have HB := n3_
            clear n0_ n1_ n2_ n3_
            (try clear hb)
            (try clear hb2)
            (try clear hk)
            (try clear hi)
            refine hK.out _ _ ⟨(blk_cell BK229.out 0).trans rfl, (blk_cell BK229.out 1).trans rfl, (blk_cell BK236.out 0).trans rfl, (blk_cell BK236.out 1).trans rfl, (blk_cell BK236.out 2).trans rfl⟩ (fun hHeld => ?_)
            clear hK K
            refine norm_ (a' := ?_) ?_ ?_
            rotate_left
            · show Act.put _ (some 48) _ = _
              simp only [Act.put, List.setIfInBounds_toArray, List.set_cons_zero, List.set_cons_succ, i64_w, i32_w]
              rfl
            refine pure_ (i := 4) (N := some 49) (v := ?_) (a' := ?_) #[true, true, true, true, true, false, false, false, false] rfl rfl (any_of HT_.out (by kernel_rfl)) (fun _ _ _ h => h) (Or.inl ⟨by rfl, ?_⟩) ?_ ?_
            rotate_left
            · intro w'
              go_simp
              with_reducible rfl
            rotate_left
            · simp only [Act.put, List.setIfInBounds_toArray, List.set_cons_zero, List.set_cons_succ, i64_w, i32_w]
              rfl
            refine pure_ (i := 5) (N := some 50) (v := ?_) (a' := ?_) #[true, true, true, true, true, true, false, false, false] rfl rfl (any_of HT_.out (by kernel_rfl)) (fun _ _ _ h => h) (Or.inl ⟨by rfl, ?_⟩) ?_ ?_
            rotate_left
            · intro w'
              go_simp
              with_reducible rfl
            rotate_left
            · simp only [Act.put, List.setIfInBounds_toArray, List.set_cons_zero, List.set_cons_succ, i64_w, i32_w]
              rfl
            refine pure_ (i := 6) (N := some 51) (v := undef) (a' := ?_) #[true, true, true, true, true, true, true, false, false] rfl rfl (any_of HT_.out (by kernel_rfl)) (fun _ _ _ h => h) (Or.inr ⟨by rfl, rfl⟩) ?_ ?_
            rotate_left
            · simp only [Act.put, List.setIfInBounds_toArray, List.set_cons_zero, List.set_cons_succ, i64_w, i32_w]
              rfl
            refine pure_ (i := 7) (N := some 52) (v := ?_) (a' := ?_) #[true, true, true, true, true, true, true, true, false] rfl rfl (any_of HT_.out (by kernel_rfl)) (fun _ _ _ h => h) (Or.inl ⟨by rfl, ?_⟩) ?_ ?_
            rotate_left
            · intro w'
              go_simp
              with_reducible rfl
            rotate_left
            · simp only [Act.put, List.setIfInBounds_toArray, List.set_cons_zero, List.set_cons_succ, i64_w, i32_w]
              rfl
            refine pure_ (i := 8) (N := some 2) (v := ?_) (a' := ?_) #[true, true, true, true, true, true, true, true, true] rfl rfl (any_of HT_.out (by kernel_rfl)) (fun _ _ _ h => h) (Or.inl ⟨by rfl, ?_⟩) ?_ ?_
            rotate_left
            · intro w'
              go_simp
              with_reducible rfl
            rotate_left
            · simp only [Act.put, List.setIfInBounds_toArray, List.set_cons_zero, List.set_cons_succ, i64_w, i32_w]
              rfl
            refine done_ (done_of HT_.out (by kernel_rfl)) ?_
            try go_wp2
            go_ret
            exact ⟨by first | rfl | (simp [errW_none, errW_some] <;> rfl) | (simp [*, errW_none, errW_some] <;> rfl), by repeat (first | (with_reducible first | exact HB.out | apply below_alloc | apply pw_below_drewN | apply below_drew1 | refine below_set ?_ GE229.out | refine below_set ?_ GE236.out) | exact HB.out)⟩
  · replace c3 := Bool.eq_false_iff.mpr c3
    subst c3
    have H1 : (some true) = some r := by rw [if_neg (show ¬ (false = true) by decide)] at H; exact H
    clear H
    have H := H1
    clear H1
    obtain rfl := Option.some.inj H
    go_enter Try.func7, Try.ntmps7
    go_wp2_with (first | ((with_reducible refine gate_dst (N := 1) rfl ?_); refine box_event ?hg (N := 1) ?hd (cs := #[.int .i64 a0_0, .int .i64 a0_1]) (t := 40) ?hr ?_; (case hd => rfl); (case hg => rfl); (case hr => first | (go_simp; done) | (go_simp; rfl)); intro gb229 hg w35 hbox hb; have n0_ := Aside0.mk (below_step (by repeat (first | (with_reducible first | exact HB.out | apply below_alloc | apply pw_below_drewN | apply below_drew1) | exact HB.out)) hb); have n1_ := Aside0.mk (hbox); have n2_ := Aside0.mk ((by rw [hg]; exact (below_size (by repeat (first | (with_reducible first | exact HB.out | apply below_alloc | apply pw_below_drewN | apply below_drew1) | exact HB.out))) : w.heap.size ≤ gb229)); have n3_ := Aside0.mk ((by rw [hg]; exact (below_size (by repeat (first | (with_reducible first | exact HB.out | apply below_alloc | apply pw_below_drewN | apply below_drew1) | exact HB.out))) : w.heap.size ≤ gb229)); clear HB; have HB := n0_; have BK229 := n1_; have GW229 := n2_; have GE229 := n3_; clear n0_ n1_ n2_ n3_; clear hb hbox hg; have hcz36_0 : w35.cell? ⟨gb229, 0, none⟩ = some (.int .i64 a0_0) := (blk_cell BK229.out 0).trans rfl; have hcz36_1 : w35.cell? ⟨gb229, 1, none⟩ = some (.int .i64 a0_1) := (blk_cell BK229.out 1).trans rfl; have hfz36_0 := blk_frozen BK229.out 0; have hfz36_1 := blk_frozen BK229.out 1) | ((with_reducible refine gate_callee (f := 18) rfl ?_); refine goesL_ (some 11) rfl rfl Try.func18 (by kernel_rfl) rfl #[.agg #[.int .i64 a0_0, .int .i64 a0_1]] rfl (by (try simp only [List.map_toArray, List.map_cons, List.map_nil]); first | done | rfl | (simp only [List.length_drop, List.length_take]; rfl)) ?_; (with_reducible refine (laws_amountOf.calls k a0_0 a0_1 t230 t231 t234 false _ A2.out).mono ?_); rintro e w37 ⟨v232, rfl, ho0, hb⟩; refine ⟨_, rfl, ?_⟩; have n0_ := Aside0.mk (Kd.R_lower ho0 (below_size (by repeat (first | (with_reducible first | exact HB.out | apply below_alloc | apply pw_below_drewN | apply below_drew1 | refine below_set ?_ GE229.out) | exact HB.out)))); have n1_ := Aside0.mk (blk_below (g := gb229) (o := .cells #[.int .i64 a0_0, .int .i64 a0_1] 40 (0, 0)) (by (with_reducible repeat (first | refine blk_drewN ?_ _ | refine blk_drew ?_ | refine blk_alloc ?_ _)); exact BK229.out) hb); have n2_ := Aside0.mk (below_step (by repeat (first | (with_reducible first | exact HB.out | apply below_alloc | apply pw_below_drewN | apply below_drew1 | refine below_set ?_ GE229.out) | exact HB.out)) hb); clear BK229; clear HB; have HO233 := n0_; have BK229 := n1_; have HB := n2_; clear n0_ n1_ n2_; (try clear hb); (try clear hb2); (try clear hk); (try clear hi); (try clear ho0)) | ((with_reducible refine gate_dst (N := 3) rfl ?_); refine box_event ?hg (N := 3) ?hd (cs := #[.bool false, .slice none 0 0, .int .i64 0]) (t := 24) ?hr ?_; (case hd => rfl); (case hg => rfl); (case hr => first | (go_simp; done) | (go_simp; rfl)); intro gb236 hg w38 hbox hb; have n0_ := Aside0.mk (Kd.R_below (by (with_reducible repeat (first | apply Kd.R_alloc | apply Kd.R_drewN | apply Kd.R_drew)); exact HO233.out) hb); have n1_ := Aside0.mk (blk_below (g := gb229) (o := .cells #[.int .i64 a0_0, .int .i64 a0_1] 40 (0, 0)) (by (with_reducible repeat (first | refine blk_drewN ?_ _ | refine blk_drew ?_ | refine blk_alloc ?_ _)); exact BK229.out) hb); have n2_ := Aside0.mk (below_step (by repeat (first | (with_reducible first | exact HB.out | apply below_alloc | apply pw_below_drewN | apply below_drew1 | refine below_set ?_ GE229.out) | exact HB.out)) hb); have n3_ := Aside0.mk (hbox); have n4_ := Aside0.mk ((by rw [hg]; exact (below_size (by repeat (first | (with_reducible first | exact HB.out | apply below_alloc | apply pw_below_drewN | apply below_drew1 | refine below_set ?_ GE229.out) | exact HB.out))) : w.heap.size ≤ gb236)); have n5_ := Aside0.mk ((by rw [hg]; exact (below_size (by repeat (first | (with_reducible first | exact HB.out | apply below_alloc | apply pw_below_drewN | apply below_drew1 | refine below_set ?_ GE229.out) | exact HB.out))) : w.heap.size ≤ gb236)); have n6_ := Aside0.mk ((by rw [hg]; exact Nat.ne_of_lt (blk_lt (g := gb229) (o := .cells #[.int .i64 a0_0, .int .i64 a0_1] 40 (0, 0)) (by (with_reducible repeat (first | refine blk_drewN ?_ _ | refine blk_drew ?_ | refine blk_alloc ?_ _)); exact BK229.out)) : gb229 ≠ gb236)); have n7_ := Aside0.mk ((by rw [hg]; exact Nat.ne_of_gt (blk_lt (g := gb229) (o := .cells #[.int .i64 a0_0, .int .i64 a0_1] 40 (0, 0)) (by (with_reducible repeat (first | refine blk_drewN ?_ _ | refine blk_drew ?_ | refine blk_alloc ?_ _)); exact BK229.out)) : gb236 ≠ gb229)); clear HO233; clear BK229; clear HB; have HO233 := n0_; have BK229 := n1_; have HB := n2_; have BK236 := n3_; have GW236 := n4_; have GE236 := n5_; have NB229_236 := n6_; have NB236_229 := n7_; clear n0_ n1_ n2_ n3_ n4_ n5_ n6_ n7_; clear hb hbox hg; have hnb39 := NB236_229.out; have hnc39 := NB229_236.out; have hcz40_0 : w38.cell? ⟨gb236, 0, none⟩ = some (.bool false) := (blk_cell BK236.out 0).trans rfl; have hcz40_1 : w38.cell? ⟨gb236, 1, none⟩ = some (.slice none 0 0) := (blk_cell BK236.out 1).trans rfl; have hcz40_2 : w38.cell? ⟨gb236, 2, none⟩ = some (.int .i64 0) := (blk_cell BK236.out 2).trans rfl; have hfz40_0 := blk_frozen BK236.out 0; have hfz40_1 := blk_frozen BK236.out 1; have hfz40_2 := blk_frozen BK236.out 2; obtain ⟨Ao41, co41, eo41⟩ := Kd.R_slice HO233.out; subst eo41))
    go_ret
    exact ⟨by first | rfl | (simp [errW_none, errW_some] <;> rfl) | (simp [*, errW_none, errW_some] <;> rfl), by repeat (first | (with_reducible first | exact HB.out | apply below_alloc | apply pw_below_drewN | apply below_drew1 | refine below_set ?_ GE229.out | refine below_set ?_ GE236.out) | exact HB.out)⟩

end Go.Proofs.Ytpchihkegmihiaa.XFnAmountSign
