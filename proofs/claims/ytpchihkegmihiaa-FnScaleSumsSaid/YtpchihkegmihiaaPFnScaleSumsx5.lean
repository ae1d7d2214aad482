-- PRINTED BY print.sh 35421559b90ae4d0a3588c463048766b98c2df88dd9212a6774a882060cdf62d: not written by this session
import Derived.Test.YtpchihkegmihiaaPFnScaleSumsx0
import Derived.Test.YtpchihkegmihiaaPFnScaleSumsx2
import Derived.Test.YtpchihkegmihiaaPFnScaleSumsx3
namespace Go.Proofs.Ytpchihkegmihiaa.PFnScaleSums
open Go.RowKit Go.Proofs.YtpchihkegmihiaaW.PrintWords Go.Proofs.YtpchihkegmihiaaW.PrintLast Go.Proofs.YtpchihkegmihiaaW.PrintMore
attribute [local go_sem] max2_int min2_int max_two min_two max_three min_three max_four min_four   -- for this text's walks alone
set_option linter.unusedVariables false
set_option linter.unusedSimpArgs false

/-! ### spec_DecimalOf: function 10 -/
mutual
def spec_DecimalOf.j0 : Nat → Int → Int → Int → Option (Bool × List Int × Int)
  | 0, _, _, _ => none
  | k + 1, x0, x1, x5 => spec_DecimalOf.l0 k x0 x1 x5 ([] : List Int)
def spec_DecimalOf.l0 : Nat → Int → Int → Int → List Int → Option (Bool × List Int × Int)
  | 0, _, _, _, _ => none
  | k + 1, x0, x1, x5, x6 => if x5 > 0 then ((some (([wrap64 (Int.tmod x5 10)] : List Int) : List Int)).bind fun y183 => (if y183.length + x6.length < 17592186044416 then (spec_DecimalOf.l0 k x0 x1 (IntKind.u64.wrap (Int.tdiv x5 10)) (y183 ++ x6)) else (none))) else ((spec_decimal.f k (decide (x0 < 0)) x6 x1).bind fun bt189 => (some (bt189.1, bt189.2.1, bt189.2.2)))
end
def spec_DecimalOf.f (k : Nat) (a0 : Int) (a1 : Int) : Option (Bool × List Int × Int) := if a0 < 0 then (spec_DecimalOf.j0 k a0 a1 (IntKind.u64.wrap (-(IntKind.u64.wrap (a0))))) else (spec_DecimalOf.j0 k a0 a1 (IntKind.u64.wrap (a0)))
theorem spec_DecimalOf.mono_l : ∀ k, (∀ y0 y1 y2, LeO (spec_DecimalOf.j0 k y0 y1 y2) (spec_DecimalOf.j0 (k + 1) y0 y1 y2)) ∧ (∀ y0 y1 y2 y3, LeO (spec_DecimalOf.l0 k y0 y1 y2 y3) (spec_DecimalOf.l0 (k + 1) y0 y1 y2 y3))
  | 0 => ⟨fun _ _ _ r h => by simp [spec_DecimalOf.j0] at h, fun _ _ _ _ r h => by simp [spec_DecimalOf.l0] at h⟩
  | k + 1 => by
    obtain ⟨ih0, ih1⟩ := spec_DecimalOf.mono_l k
    refine ⟨?_, ?_⟩
    · intro y0 y1 y2
      unfold spec_DecimalOf.j0
      repeat' first
      | (with_reducible exact ih0 _ _ _)
      | (with_reducible exact ih1 _ _ _ _)
      | (with_reducible exact spec_decimal.mono _ _ _ _)
      | (with_reducible exact LeO.refl _)
      | (with_reducible exact LeO.none _)
      | (with_reducible refine LeO.ite ?_ ?_)
      | (with_reducible refine LeO.bind ?_ (fun _ => ?_))
      | exact ih0 _ _ _
      | exact ih1 _ _ _ _
      | exact spec_decimal.mono _ _ _ _
      | exact LeO.none _
      | refine LeO.ite ?_ ?_
      | refine LeO.bind ?_ (fun _ => ?_)
    · intro y0 y1 y2 y3
      unfold spec_DecimalOf.l0
      repeat' first
      | (with_reducible exact ih0 _ _ _)
      | (with_reducible exact ih1 _ _ _ _)
      | (with_reducible exact spec_decimal.mono _ _ _ _)
      | (with_reducible exact LeO.refl _)
      | (with_reducible exact LeO.none _)
      | (with_reducible refine LeO.ite ?_ ?_)
      | (with_reducible refine LeO.bind ?_ (fun _ => ?_))
      | exact ih0 _ _ _
      | exact ih1 _ _ _ _
      | exact spec_decimal.mono _ _ _ _
      | exact LeO.none _
      | refine LeO.ite ?_ ?_
      | refine LeO.bind ?_ (fun _ => ?_)
theorem spec_DecimalOf.mono : ∀ a0 a1 k, LeO (spec_DecimalOf.f k a0 a1) (spec_DecimalOf.f (k + 1) a0 a1) := by
  intro a0 a1 k
  obtain ⟨ih0, ih1⟩ := spec_DecimalOf.mono_l k
  unfold spec_DecimalOf.f
  repeat' first
      | (with_reducible exact ih0 _ _ _)
      | (with_reducible exact ih1 _ _ _ _)
      | (with_reducible exact spec_decimal.mono _ _ _ _)
      | (with_reducible exact LeO.refl _)
      | (with_reducible exact LeO.none _)
      | (with_reducible refine LeO.ite ?_ ?_)
      | (with_reducible refine LeO.bind ?_ (fun _ => ?_))
      | exact ih0 _ _ _
      | exact ih1 _ _ _ _
      | exact spec_decimal.mono _ _ _ _
      | exact LeO.none _
      | refine LeO.ite ?_ ?_
      | refine LeO.bind ?_ (fun _ => ?_)
set_option maxHeartbeats 8000000 in
set_option maxRecDepth 100000 in
theorem spec_DecimalOf.calls (k : Nat) (a0 : Int) (a1 : Int) (r1 : Bool) (r2 : List Int) (r3 : Int) (w : World) (h : spec_DecimalOf.f k a0 a1 = some (r1, r2, r3)) :
    Calls Try.prog 10 #[.int .i64 a0, .int .i64 a1] w fun e w' => ∃ v1_ : Value, e = .returned (.agg #[.bool r1, v1_, .int .i64 r3]) ∧ Kd.R (Kd.int .i64) 3 w' w.heap.size (fun _ => True) v1_ r2 ∧ Below w.heap.size w w' := by
  have hu24 := Try.underlying24
  have HB := Aside0.mk (Below.refl w.heap.size w)
  have H : (if a0 < 0 then (spec_DecimalOf.j0 k a0 a1 (IntKind.u64.wrap (-(IntKind.u64.wrap (a0))))) else (spec_DecimalOf.j0 k a0 a1 (IntKind.u64.wrap (a0)))) = some (r1, r2, r3) := h
  clear h
  have HC3 := Aside0.mk H
  clear H
  go_enter Try.func10, Try.ntmps10
  go_upto_if 10 with (first | ((with_reducible refine gate_dst (N := 4) rfl ?_); refine box_event ?hg (N := 4) ?hd (cs := #[.bool false, .slice none 0 0, .int .i64 0]) (t := 24) ?hr ?_; (case hd => rfl); (case hg => rfl); (case hr => first | (go_simp; done) | (go_simp; rfl)); intro gb182 hg w4 hbox hb; have n0_ := Aside0.mk (below_step (by repeat (first | (with_reducible first | exact HB.out | apply below_alloc | apply pw_below_drewN | apply below_drew1) | exact HB.out)) hb); have n1_ := Aside0.mk (hbox); have n2_ := Aside0.mk ((by rw [hg]; exact (below_size (by repeat (first | (with_reducible first | exact HB.out | apply below_alloc | apply pw_below_drewN | apply below_drew1) | exact HB.out))) : w.heap.size ≤ gb182)); have n3_ := Aside0.mk ((by rw [hg]; exact (below_size (by repeat (first | (with_reducible first | exact HB.out | apply below_alloc | apply pw_below_drewN | apply below_drew1) | exact HB.out))) : w.heap.size ≤ gb182)); clear HB; have HB := n0_; have BK182 := n1_; have GW182 := n2_; have GE182 := n3_; clear n0_ n1_ n2_ n3_; clear hb hbox hg))
  (try simp only [Act.put, List.setIfInBounds_toArray, List.set_cons_zero, List.set_cons_succ])
  go_cut [5] (fun v5 wc => ∃ (kq : Nat) (x5_2 : Int), v5 = .int .u64 x5_2 ∧ Aside0 (spec_DecimalOf.j0 kq a0 a1 x5_2 = some (r1, r2, r3)) ∧ Aside0 (kq ≤ k) ∧ Aside0 (wc.heap[gb182]? = some (.cells #[.bool false, (.slice none 0 0), .int .i64 0] 24 (0, 0))) ∧ Aside0 (Below w.heap.size w wc))
  case first =>
    have H := HC3.out
    clear HC3
    by_cases c5 : a0 < 0
    · rw [if_pos c5] at H
      have c5b0 : decide (a0 < 0) = true := decide_eq_true c5
      clear c5
      (first | rw [c5b0] | (simp only [i64_w, i32_w]; rw [c5b0]) | skip)
      have H' := Aside0.mk H
      clear H
      go_wp2
      go_meet
      case rel => exact ⟨_, (IntKind.u64.wrap (-(IntKind.u64.wrap (a0)))), (by first | rfl | (simp; done) | (simp [*]; done)), H', ⟨by first | omega | exact Nat.le_refl _⟩, ⟨by (with_reducible repeat (first | refine blk_drewN ?_ _ | refine blk_drew ?_ | refine blk_alloc ?_ _)); exact BK182.out⟩, ⟨by repeat (first | (with_reducible first | exact HB.out | apply below_alloc | apply pw_below_drewN | apply below_drew1 | refine below_set ?_ GE182.out) | exact HB.out)⟩⟩
    · rw [if_neg c5] at H
      have c5b0 : decide (a0 < 0) = false := decide_eq_false c5
      clear c5
      (first | rw [c5b0] | (simp only [i64_w, i32_w]; rw [c5b0]) | skip)
      have H' := Aside0.mk H
      clear H
      go_wp2
      go_meet
      case rel => exact ⟨_, (IntKind.u64.wrap (a0)), (by first | rfl | (simp; done) | (simp [*]; done)), H', ⟨by first | omega | exact Nat.le_refl _⟩, ⟨by (with_reducible repeat (first | refine blk_drewN ?_ _ | refine blk_drew ?_ | refine blk_alloc ?_ _)); exact BK182.out⟩, ⟨by repeat (first | (with_reducible first | exact HB.out | apply below_alloc | apply pw_below_drewN | apply below_drew1 | refine below_set ?_ GE182.out) | exact HB.out)⟩⟩
  case rest =>
    clear HC3
    try clear c1
    try clear p2
    try clear c5
    try clear c5b0
    obtain ⟨kq, x5_2, rfl, HA, HJ2, BK182, HB⟩ := hcut
    cases kq with
    | zero => exact absurd HA.out (by simp [spec_DecimalOf.j0])
    | succ kj2 =>
      have H := HA.out
      clear HA
      simp only [spec_DecimalOf.j0] at H
      have H' := Aside0.mk H
      clear H
      go_wp2
      go_loopg [5, 6] kj2 (fun kq v5 v6 w' => ∃ (x5_2 : Int) (x6_2 : List Int), v5 = .int .u64 x5_2 ∧ Aside0 (spec_DecimalOf.l0 kq a0 a1 x5_2 x6_2 = some (r1, r2, r3)) ∧ Aside0 (kq ≤ kj2) ∧ Aside0 (Kd.R (Kd.int .i64) 3 w' w.heap.size (fun _ => True) v6 x6_2) ∧ Aside0 (w'.heap[gb182]? = some (.cells #[.bool false, (.slice none 0 0), .int .i64 0] 24 (0, 0))) ∧ Aside0 (Below w.heap.size w w'))
      case atStart => exact ⟨(x5_2), (([] : List Int)), (by first | rfl | (simp; done) | (simp [*]; done)), H', ⟨Nat.le_refl _⟩, ⟨by first | exact Kd.R_nil _ _ _ _ _ | exact Kd.N_nil _ _ _ _ _ | exact Kd.V_nil _ _ _ _ _ | exact Kd.Q_nil _ _ _ _ _ | exact Kd.S_nil _ _ _ _ _⟩, ⟨by (with_reducible repeat (first | refine blk_drewN ?_ _ | refine blk_drew ?_ | refine blk_alloc ?_ _)); exact BK182.out⟩, ⟨by repeat (first | (with_reducible first | exact HB.out | apply below_alloc | apply pw_below_drewN | apply below_drew1 | refine below_set ?_ GE182.out) | exact HB.out)⟩⟩
      case round =>
        clear H'
        try clear c1
        try clear p2
        try clear c5
        try clear c5b0
        try clear p2
        obtain ⟨x5_2, x6_2, rfl, HA, HK2, HO_6, BK182, HB⟩ := hrel
        cases gk with
        | zero => exact absurd HA.out (by simp [spec_DecimalOf.l0])
        | succ k2 =>
          have H := HA.out
          clear HA
          simp only [spec_DecimalOf.l0] at H
          by_cases c6 : x5_2 > 0
          · rw [if_pos c6] at H
            have c6b0 : decide (0 < x5_2) = true := decide_eq_true c6
            clear c6
            obtain ⟨y183, hy183⟩ : ∃ y_ : List Int, y_ = (([wrap64 (Int.tmod x5_2 10)] : List Int)) := ⟨_, rfl⟩
            replace H : (if y183.length + x6_2.length < 17592186044416 then (spec_DecimalOf.l0 k2 a0 a1 (IntKind.u64.wrap (Int.tdiv x5_2 10)) (y183 ++ x6_2)) else (none)) = some (r1, r2, r3) := by first | (rw [hy183]; with_reducible exact H) | (have H2_ := (Option.bind_some _ _).symm.trans H; rw [hy183]; with_reducible exact H2_) | (have H2_ := (Option.bind_some _ _).symm.trans H; with_reducible exact H2_) | with_reducible exact H | (rw [hy183]; exact H) | exact H
            have Ny183 := Aside0.mk hy183
            clear hy183
            by_cases c7 : y183.length + x6_2.length < 17592186044416
            · rw [if_pos c7] at H
              have LMc7 := Aside0.mk c7
              clear c7
              obtain ⟨y186, hy186⟩ : ∃ y_ : List Int, y_ = (y183 ++ x6_2) := ⟨_, rfl⟩
              replace H : (spec_DecimalOf.l0 k2 a0 a1 (IntKind.u64.wrap (Int.tdiv x5_2 10)) y186) = some (r1, r2, r3) := by first | (rw [hy186]; with_reducible exact H) | (have H2_ := (Option.bind_some _ _).symm.trans H; rw [hy186]; with_reducible exact H2_) | (have H2_ := (Option.bind_some _ _).symm.trans H; with_reducible exact H2_) | with_reducible exact H | (rw [hy186]; exact H) | exact H
              have Ny186 := Aside0.mk hy186
              clear hy186
              have H' := Aside0.mk H
              clear H
              go_wp2_with (first | ((with_reducible refine gate_dst (N := 20) rfl ?_); refine Kd.R_lit (Kd.int .i64) _ 3 ?hg (N := 20) ?hd (xs := ([wrap64 (Int.tmod x5_2 10)] : List Int)) (inner := [.int .i64 (wrap64 (Int.tmod x5_2 10))]) (ok := fun _ => True) (okp := fun _ => True) ?hr ?hp (fun _ hk => hk) trivial (Below.refl _ _) (Nat.le_refl _) (by simp) ?_; (case hd => rfl); (case hg => rfl); (case hr => first | (go_simp; done) | (go_simp; rfl)); (case hp => exact (Reps.one (show Kd.M (Kd.int .i64) _ _ _ (wrap64 (Int.tmod x5_2 10)) [.int .i64 (wrap64 (Int.tmod x5_2 10))] from rfl) (Reps.none _ _))); intro v184 w8 ho9 hb hg_ hnew_; clear hg_ hnew_; (first | rw [← Ny183.out] at ho9 | (simp only [Int.reduceToNat] at ho9; rw [← Ny183.out] at ho9)); have n0_ := Aside0.mk (Kd.R_elder' (by (with_reducible repeat (first | apply Kd.R_alloc | apply Kd.R_drewN | apply Kd.R_drew)); exact HO_6.out) (Kd.R_base ho9) hb); have n1_ := Aside0.mk (Kd.R_lower (Kd.R_new' ho9 (Kd.R_lt (by (with_reducible repeat (first | apply Kd.R_alloc | apply Kd.R_drewN | apply Kd.R_drew)); exact HO_6.out))) (below_size (by repeat (first | (with_reducible first | exact HB.out | apply below_alloc | apply pw_below_drewN | apply below_drew1 | refine below_set ?_ GE182.out) | exact HB.out)))); have n2_ := Aside0.mk (blk_below (g := gb182) (o := .cells #[.bool false, .slice none 0 0, .int .i64 0] 24 (0, 0)) (by (with_reducible repeat (first | refine blk_drewN ?_ _ | refine blk_drew ?_ | refine blk_alloc ?_ _)); exact BK182.out) hb); have n3_ := Aside0.mk (below_step (by repeat (first | (with_reducible first | exact HB.out | apply below_alloc | apply pw_below_drewN | apply below_drew1 | refine below_set ?_ GE182.out) | exact HB.out)) hb); clear HO_6; clear BK182; clear HB; have HO_6 := n0_; have HO185 := n1_; have BK182 := n2_; have HB := n3_; clear n0_ n1_ n2_ n3_; clear hb ho9; obtain ⟨Ao11, co11, eo11⟩ := Kd.R_slice HO_6.out; subst eo11) | ((with_reducible refine gate_builtin (b := .append) (xs := #[.tmp 20, .tmp 21]) rfl ?_); at_builtin; refine Kd.R_append_rows (Kd.int .i64) (w0 := w) w.heap.size rfl (.tmp 20) (.tmp 21) 22 3 (.int .i64 0) 8 rfl Try.underlying22 info3 rfl (by decide) (by omega) v184 y183 x6_2 _ _ _ (fun k_ => some k_ ≠ (.slice Ao11 x6_2.length co11 : Value).ownBlock) (fun _ => False) rfl rfl ?aO ?aR (fun _ _ h => h) (fun _ h => h.elim) ?aF ?aB ?aS ?aL ?_; (case aR => repeat (first | exact (Kd.R_reads' HO_6.out).2.2 | (with_reducible refine Kd.C_alloc ?_ _) | (with_reducible refine Kd.C_drewN ?_ _) | (with_reducible refine Kd.C_drew ?_))); (case aB => exact (by repeat (first | (with_reducible first | exact HB.out | apply below_alloc | apply pw_below_drewN | apply below_drew1 | refine below_set ?_ GE182.out) | exact HB.out))); (case aF => exact (fun k_ hk => Kd.fresh' (Kd.R_lt (by (with_reducible repeat (first | apply Kd.R_alloc | apply Kd.R_drewN | apply Kd.R_drew)); exact HO_6.out)) k_ hk)); (case aO => exact (by (with_reducible repeat (first | apply Kd.R_alloc | apply Kd.R_drewN | apply Kd.R_drew)); exact Kd.R_mono HO185.out (fun _ hk => hk.2))); (case aS => exact (below_size (by repeat (first | (with_reducible first | exact HB.out | apply below_alloc | apply pw_below_drewN | apply below_drew1 | refine below_set ?_ GE182.out) | exact HB.out)))); (case aL => have := LMc7.out; omega); intro v187 w10 ho hb hg hat; rw [← Ny186.out] at ho; have n0_ := Aside0.mk (Kd.R_after (ok := (fun _ => True)) (by (with_reducible repeat (first | apply Kd.R_alloc | apply Kd.R_drewN | apply Kd.R_drew)); exact HO_6.out) hg hat); have n1_ := Aside0.mk (blk_grown (g := gb182) (o := .cells #[.bool false, .slice none 0 0, .int .i64 0] 24 (0, 0)) (by (with_reducible repeat (first | refine blk_drewN ?_ _ | refine blk_drew ?_ | refine blk_alloc ?_ _)); exact BK182.out) hg (Kd.R_ne HO185.out BK182.out (by decide))); have n2_ := Aside0.mk (hb); have n3_ := Aside0.mk (ho); clear HO_6; clear BK182; clear HB; clear HO185; have HO_6 := n0_; have BK182 := n1_; have HB := n2_; have HO188 := n3_; clear n0_ n1_ n2_ n3_; clear ho hb hg hat))
              go_roundg k2
              case measure => have := HJ2.out; have := HK2.out; omega
              case rel => exact ⟨(IntKind.u64.wrap (Int.tdiv x5_2 10)), (y186), (by first | rfl | (simp; done) | (simp [*]; done)), H', ⟨by have := HJ2.out; have := HK2.out; omega⟩, ⟨by (with_reducible repeat (first | apply Kd.R_alloc | apply Kd.R_drewN | apply Kd.R_drew)); exact Kd.R_mono HO188.out (fun _ hk => trivial)⟩, ⟨by (with_reducible repeat (first | refine blk_drewN ?_ _ | refine blk_drew ?_ | refine blk_alloc ?_ _)); exact BK182.out⟩, ⟨by repeat (first | (with_reducible first | exact HB.out | apply below_alloc | apply pw_below_drewN | apply below_drew1 | refine below_set ?_ GE182.out) | exact HB.out)⟩⟩
            · rw [if_neg c7] at H
              exact absurd H (by simp)
          · rw [if_neg c6] at H
            have c6b0 : decide (0 < x5_2) = false := decide_eq_false c6
            clear c6
            replace H := Option.bind_eq_some_iff.mp H
            obtain ⟨⟨t189, t190, t193⟩, A120, H⟩ := H
            replace H : (some (t189, t190, t193)) = some (r1, r2, r3) := H
            have A12 := Aside0.mk A120
            clear A120
            simp only [Option.some.injEq, Prod.mk.injEq] at H
            obtain ⟨rfl, rfl, rfl⟩ := H
            obtain ⟨Ao13, co13, eo13⟩ := Kd.R_slice HO_6.out
            subst eo13
            go_wp2_with (first | ((with_reducible refine gate_callee (f := 33) rfl ?_); refine goesL_ (some 27) rfl rfl Try.func33 (by kernel_rfl) rfl #[.bool (decide (a0 < 0)), .slice Ao13 x6_2.length co13, .int .i64 a1] rfl (by (try simp only [List.map_toArray, List.map_cons, List.map_nil]); first | done | rfl | (simp only [List.length_drop, List.length_take]; rfl)) ?_; (with_reducible refine (spec_decimal.calls k2 (decide (a0 < 0)) (fun k_ => some k_ = (.slice Ao13 x6_2.length co13 : Value).ownBlock) _ _ x6_2 a1 t189 t190 t193 _ ?side1 A12.out).mono ?_); (case side1 => exact Kd.R_V (Kd.R_tight rfl (Kd.R_types (HO_6.out) BK182.out (by decide)))); rintro e w14 ⟨v191, rfl, ho0, hb⟩; refine ⟨_, rfl, ?_⟩; have n0_ := Aside0.mk (Kd.R_elder' (by (with_reducible repeat (first | apply Kd.R_alloc | apply Kd.R_drewN | apply Kd.R_drew)); exact HO_6.out) (Kd.R_base ho0) hb); have n1_ := Aside0.mk (Kd.R_lower (Kd.R_new' (Kd.R_mono (ok' := fun k_ => True) ho0 (fun _ hk_ => trivial)) (Kd.R_lt (by (with_reducible repeat (first | apply Kd.R_alloc | apply Kd.R_drewN | apply Kd.R_drew)); exact HO_6.out))) (below_size (by repeat (first | (with_reducible first | exact HB.out | apply below_alloc | apply pw_below_drewN | apply below_drew1 | refine below_set ?_ GE182.out) | exact HB.out)))); have n2_ := Aside0.mk (blk_below (g := gb182) (o := .cells #[.bool false, .slice none 0 0, .int .i64 0] 24 (0, 0)) (by (with_reducible repeat (first | refine blk_drewN ?_ _ | refine blk_drew ?_ | refine blk_alloc ?_ _)); exact BK182.out) hb); have n3_ := Aside0.mk (below_step (by repeat (first | (with_reducible first | exact HB.out | apply below_alloc | apply pw_below_drewN | apply below_drew1 | refine below_set ?_ GE182.out) | exact HB.out)) hb); clear HO_6; clear BK182; clear HB; have HO_6 := n0_; have HO192 := n1_; have BK182 := n2_; have HB := n3_; clear n0_ n1_ n2_ n3_; (try clear hb); (try clear hb2); (try clear hk); (try clear hi); (try clear ho0); have hcz15_0 : w14.cell? ⟨gb182, 0, none⟩ = some (.bool false) := (blk_cell BK182.out 0).trans rfl; have hcz15_1 : w14.cell? ⟨gb182, 1, none⟩ = some (.slice none 0 0) := (blk_cell BK182.out 1).trans rfl; have hcz15_2 : w14.cell? ⟨gb182, 2, none⟩ = some (.int .i64 0) := (blk_cell BK182.out 2).trans rfl; have hfz15_0 := blk_frozen BK182.out 0; have hfz15_1 := blk_frozen BK182.out 1; have hfz15_2 := blk_frozen BK182.out 2; obtain ⟨Ao16, co16, eo16⟩ := Kd.R_slice HO192.out; subst eo16))
            refine bodyPost_ret (results_cell_row rfl _ _ gb182 24 #[.bool t189, .slice Ao16 t190.length co16, .int .i64 t193] (0, 0) _ rfl (by (with_reducible repeat (first | refine blk_drewN ?_ _ | refine blk_drew ?_ | refine blk_alloc ?_ _)); refine blk_put (cs := #[.bool t189, .slice Ao16 t190.length co16, .int .i64 0]) ?_ 2 _ rfl; (with_reducible repeat (first | refine blk_drewN ?_ _ | refine blk_drew ?_ | refine blk_alloc ?_ _)); refine blk_put (cs := #[.bool t189, .slice none 0 0, .int .i64 0]) ?_ 1 _ rfl; (with_reducible repeat (first | refine blk_drewN ?_ _ | refine blk_drew ?_ | refine blk_alloc ?_ _)); refine blk_put (cs := #[.bool false, .slice none 0 0, .int .i64 0]) ?_ 0 _ rfl; (with_reducible repeat (first | refine blk_drewN ?_ _ | refine blk_drew ?_ | refine blk_alloc ?_ _)); exact BK182.out) Try.underlying24 rfl (by kernel_rfl)) rfl ?_
            exact ⟨_, by first | rfl | (simp [errW_none, errW_some] <;> rfl) | (simp [*, errW_none, errW_some] <;> rfl), by (with_reducible repeat (first | apply Kd.R_alloc | apply Kd.R_drewN | apply Kd.R_drew)); exact Kd.R_mono (Kd.R_far (p := ⟨gb182, 2, none⟩) (Kd.R_far (p := ⟨gb182, 1, none⟩) (Kd.R_far (p := ⟨gb182, 0, none⟩) (Kd.R_types HO192.out BK182.out (by decide)) (fun _ hk => hk.2) (.bool t189)) (fun _ hk => hk.2) (.slice Ao16 t190.length co16)) (fun _ hk => hk.2) (.int .i64 t193)) (fun _ hk => trivial), by repeat (first | (with_reducible first | exact HB.out | apply below_alloc | apply pw_below_drewN | apply below_drew1 | refine below_set ?_ GE182.out) | exact HB.out)⟩

/-! ### spec_DecimalInt: function 25 -/
mutual
def spec_DecimalInt.j0 : Nat → Bool → Bool → List Int → Int → Option (Int × Bool)
  | 0, _, _, _, _ => none
  | k + 1, x24, x195000, x195001, x195002 => if x24 = true then (some (0, false)) else ((spec_wide.f k x195000 x195001 x195002 0).bind fun t195 => (spec_DecimalInt.l0 k 0 t195 (t195.length : Int) 0 x195000 x195001 x195002))
def spec_DecimalInt.l0 : Nat → Int → List Int → Int → Int → Bool → List Int → Int → Option (Int × Bool)
  | 0, _, _, _, _, _, _, _ => none
  | k + 1, x4, x26, x27, x28, x195000, x195001, x195002 => if x28 < x27 then (if 0 ≤ x28 then (if x28 < (x26.length : Int) then (spec_DecimalInt.l0 k (IntKind.u64.wrap ((IntKind.u64.wrap (10 * x4)) + (IntKind.u64.wrap (rd x26 x28)))) x26 x27 (wrap64 (x28 + 1)) x195000 x195001 x195002) else (none)) else (none)) else (if x195000 = true then (some (wrap64 (IntKind.u64.wrap (-x4)), decide (x4 ≤ 9223372036854775808))) else (some (wrap64 (x4), decide (x4 < 9223372036854775808))))
end
def spec_DecimalInt.f (k : Nat) (a0_0 : Bool) (l0_1 : List Int) (a0_2 : Int) : Option (Int × Bool) := if (l0_1.length : Int) > 0 then (if a0_2 < 0 then (spec_DecimalInt.j0 k true a0_0 l0_1 a0_2) else (spec_DecimalInt.j0 k (decide ((wrap64 ((l0_1.length : Int) + a0_2)) > 19)) a0_0 l0_1 a0_2)) else (spec_DecimalInt.j0 k false a0_0 l0_1 a0_2)
theorem spec_DecimalInt.mono_l : ∀ k, (∀ y0 y1 y2 y3, LeO (spec_DecimalInt.j0 k y0 y1 y2 y3) (spec_DecimalInt.j0 (k + 1) y0 y1 y2 y3)) ∧ (∀ y0 y1 y2 y3 y4 y5 y6, LeO (spec_DecimalInt.l0 k y0 y1 y2 y3 y4 y5 y6) (spec_DecimalInt.l0 (k + 1) y0 y1 y2 y3 y4 y5 y6))
  | 0 => ⟨fun _ _ _ _ r h => by simp [spec_DecimalInt.j0] at h, fun _ _ _ _ _ _ _ r h => by simp [spec_DecimalInt.l0] at h⟩
  | k + 1 => by
    obtain ⟨ih0, ih1⟩ := spec_DecimalInt.mono_l k
    refine ⟨?_, ?_⟩
    · intro y0 y1 y2 y3
      unfold spec_DecimalInt.j0
      repeat' first
      | (with_reducible exact ih0 _ _ _ _)
      | (with_reducible exact ih1 _ _ _ _ _ _ _)
      | (with_reducible exact spec_wide.mono _ _ _ _ _)
      | (with_reducible exact LeO.refl _)
      | (with_reducible exact LeO.none _)
      | (with_reducible refine LeO.ite ?_ ?_)
      | (with_reducible refine LeO.bind ?_ (fun _ => ?_))
      | exact ih0 _ _ _ _
      | exact ih1 _ _ _ _ _ _ _
      | exact spec_wide.mono _ _ _ _ _
      | exact LeO.none _
      | refine LeO.ite ?_ ?_
      | refine LeO.bind ?_ (fun _ => ?_)
    · intro y0 y1 y2 y3 y4 y5 y6
      unfold spec_DecimalInt.l0
      repeat' first
      | (with_reducible exact ih0 _ _ _ _)
      | (with_reducible exact ih1 _ _ _ _ _ _ _)
      | (with_reducible exact spec_wide.mono _ _ _ _ _)
      | (with_reducible exact LeO.refl _)
      | (with_reducible exact LeO.none _)
      | (with_reducible refine LeO.ite ?_ ?_)
      | (with_reducible refine LeO.bind ?_ (fun _ => ?_))
      | exact ih0 _ _ _ _
      | exact ih1 _ _ _ _ _ _ _
      | exact spec_wide.mono _ _ _ _ _
      | exact LeO.none _
      | refine LeO.ite ?_ ?_
      | refine LeO.bind ?_ (fun _ => ?_)
theorem spec_DecimalInt.mono : ∀ a0 a1 a2 k, LeO (spec_DecimalInt.f k a0 a1 a2) (spec_DecimalInt.f (k + 1) a0 a1 a2) := by
  intro a0 a1 a2 k
  obtain ⟨ih0, ih1⟩ := spec_DecimalInt.mono_l k
  unfold spec_DecimalInt.f
  repeat' first
      | (with_reducible exact ih0 _ _ _ _)
      | (with_reducible exact ih1 _ _ _ _ _ _ _)
      | (with_reducible exact spec_wide.mono _ _ _ _ _)
      | (with_reducible exact LeO.refl _)
      | (with_reducible exact LeO.none _)
      | (with_reducible refine LeO.ite ?_ ?_)
      | (with_reducible refine LeO.bind ?_ (fun _ => ?_))
      | exact ih0 _ _ _ _
      | exact ih1 _ _ _ _ _ _ _
      | exact spec_wide.mono _ _ _ _ _
      | exact LeO.none _
      | refine LeO.ite ?_ ?_
      | refine LeO.bind ?_ (fun _ => ?_)
set_option maxHeartbeats 8000000 in
set_option maxRecDepth 100000 in
theorem spec_DecimalInt.calls (k : Nat) (a0_0 : Bool) (A0_1 : Option Addr) (c0_1 : Nat) (l0_1 : List Int) (a0_2 : Int) (r1 : Int) (r2 : Bool) (w : World) (hr0_1 : Kd.C (Kd.int .i64) w A0_1 l0_1.length l0_1) (hc0_1 : l0_1.length ≤ c0_1) (h : spec_DecimalInt.f k a0_0 l0_1 a0_2 = some (r1, r2)) :
    Calls Try.prog 25 #[.agg #[.bool a0_0, .slice A0_1 l0_1.length c0_1, .int .i64 a0_2]] w fun e w' => e = .returned (.tuple #[.int .i64 r1, .bool r2]) ∧ Below w.heap.size w w' := by
  have hu24 := Try.underlying24
  have HR0_1 := Aside0.mk hr0_1
  have HC0_1 := Aside0.mk hc0_1
  clear hr0_1 hc0_1
  have HB := Aside0.mk (Below.refl w.heap.size w)
  have H : (if (l0_1.length : Int) > 0 then (if a0_2 < 0 then (spec_DecimalInt.j0 k true a0_0 l0_1 a0_2) else (spec_DecimalInt.j0 k (decide ((wrap64 ((l0_1.length : Int) + a0_2)) > 19)) a0_0 l0_1 a0_2)) else (spec_DecimalInt.j0 k false a0_0 l0_1 a0_2)) = some (r1, r2) := h
  clear h
  have HC2 := Aside0.mk H
  clear H
  go_enter Try.func25, Try.ntmps25
  go_upto_region 1 with (first | ((with_reducible refine gate_dst (N := 1) rfl ?_); (try (refine gate_guard (by rfl) ?_; dsimp only)); refine box_event ?hg (N := 1) ?hd (cs := #[.bool a0_0, .slice A0_1 l0_1.length c0_1, .int .i64 a0_2]) (t := 24) ?hr ?_; (case hd => rfl); (case hg => rfl); (case hr => first | (go_simp; done) | (go_simp; rfl)); intro gb194 hg w3 hbox hb; have n0_ := Aside0.mk (below_step (by repeat (first | (with_reducible first | exact HB.out | apply below_alloc | apply pw_below_drewN | apply below_drew1) | exact HB.out)) hb); have n1_ := Aside0.mk (hbox); have n2_ := Aside0.mk ((by rw [hg]; exact (below_size (by repeat (first | (with_reducible first | exact HB.out | apply below_alloc | apply pw_below_drewN | apply below_drew1) | exact HB.out))) : w.heap.size ≤ gb194)); have n3_ := Aside0.mk ((by rw [hg]; exact (below_size (by repeat (first | (with_reducible first | exact HB.out | apply below_alloc | apply pw_below_drewN | apply below_drew1) | exact HB.out))) : w.heap.size ≤ gb194)); clear HB; have HB := n0_; have BK194 := n1_; have GW194 := n2_; have GE194 := n3_; clear n0_ n1_ n2_ n3_; clear hb hbox hg))
  (try simp only [Act.put, List.setIfInBounds_toArray, List.set_cons_zero, List.set_cons_succ])
  go_cut [24] (fun v24 wc => ∃ (kq : Nat) (x24_1 : Bool), v24 = .bool x24_1 ∧ Aside0 (spec_DecimalInt.j0 kq x24_1 a0_0 l0_1 a0_2 = some (r1, r2)) ∧ Aside0 (kq ≤ k) ∧ Aside0 (wc.heap[gb194]? = some (.cells #[.bool a0_0, (.slice A0_1 l0_1.length c0_1), .int .i64 a0_2] 24 (0, 0))) ∧ Aside0 (Below w.heap.size w wc))
  case first =>
    have H := HC2.out
    clear HC2
    by_cases c4 : (l0_1.length : Int) > 0
    · rw [if_pos c4] at H
      have c4b0 : decide (0 < (l0_1.length : Int)) = true := decide_eq_true c4
      have c4b1 : decide (0 < l0_1.length) = true := decide_eq_true (by omega)
      clear c4
      (first | rw [c4b0] | (simp only [i64_w, i32_w]; rw [c4b0]) | skip)
      by_cases c5 : a0_2 < 0
      · rw [if_pos c5] at H
        have c5b0 : decide (a0_2 < 0) = true := decide_eq_true c5
        clear c5
        have H' := Aside0.mk H
        clear H
        have hcz6_0 : w3.cell? ⟨gb194, 0, none⟩ = some (.bool a0_0) := (blk_cell BK194.out 0).trans rfl
        have hcz6_1 : w3.cell? ⟨gb194, 1, none⟩ = some (.slice A0_1 l0_1.length c0_1) := (blk_cell BK194.out 1).trans rfl
        have hcz6_2 : w3.cell? ⟨gb194, 2, none⟩ = some (.int .i64 a0_2) := (blk_cell BK194.out 2).trans rfl
        have hfz6_0 := blk_frozen BK194.out 0
        have hfz6_1 := blk_frozen BK194.out 1
        have hfz6_2 := blk_frozen BK194.out 2
        go_wp2
        go_meet
        case rel => exact ⟨_, (true), (by first | rfl | (simp; done) | (simp [*]; done)), H', ⟨by first | omega | exact Nat.le_refl _⟩, ⟨by (with_reducible repeat (first | refine blk_drewN ?_ _ | refine blk_drew ?_ | refine blk_alloc ?_ _)); exact BK194.out⟩, ⟨by repeat (first | (with_reducible first | exact HB.out | apply below_alloc | apply pw_below_drewN | apply below_drew1 | refine below_set ?_ GE194.out) | exact HB.out)⟩⟩
      · rw [if_neg c5] at H
        have c5b0 : decide (a0_2 < 0) = false := decide_eq_false c5
        clear c5
        have H' := Aside0.mk H
        clear H
        have hcz7_0 : w3.cell? ⟨gb194, 0, none⟩ = some (.bool a0_0) := (blk_cell BK194.out 0).trans rfl
        have hcz7_1 : w3.cell? ⟨gb194, 1, none⟩ = some (.slice A0_1 l0_1.length c0_1) := (blk_cell BK194.out 1).trans rfl
        have hcz7_2 : w3.cell? ⟨gb194, 2, none⟩ = some (.int .i64 a0_2) := (blk_cell BK194.out 2).trans rfl
        have hfz7_0 := blk_frozen BK194.out 0
        have hfz7_1 := blk_frozen BK194.out 1
        have hfz7_2 := blk_frozen BK194.out 2
        go_wp2
        go_meet
        case rel => exact ⟨_, (decide ((wrap64 ((l0_1.length : Int) + a0_2)) > 19)), (by first | rfl | (simp; done) | (simp [*]; done)), H', ⟨by first | omega | exact Nat.le_refl _⟩, ⟨by (with_reducible repeat (first | refine blk_drewN ?_ _ | refine blk_drew ?_ | refine blk_alloc ?_ _)); exact BK194.out⟩, ⟨by repeat (first | (with_reducible first | exact HB.out | apply below_alloc | apply pw_below_drewN | apply below_drew1 | refine below_set ?_ GE194.out) | exact HB.out)⟩⟩
    · rw [if_neg c4] at H
      have c4b0 : decide (0 < (l0_1.length : Int)) = false := decide_eq_false c4
      have c4b1 : decide (0 < l0_1.length) = false := decide_eq_false (by omega)
      clear c4
      (first | rw [c4b0] | (simp only [i64_w, i32_w]; rw [c4b0]) | skip)
      have H' := Aside0.mk H
      clear H
      have hcz8_0 : w3.cell? ⟨gb194, 0, none⟩ = some (.bool a0_0) := (blk_cell BK194.out 0).trans rfl
      have hcz8_1 : w3.cell? ⟨gb194, 1, none⟩ = some (.slice A0_1 l0_1.length c0_1) := (blk_cell BK194.out 1).trans rfl
      have hcz8_2 : w3.cell? ⟨gb194, 2, none⟩ = some (.int .i64 a0_2) := (blk_cell BK194.out 2).trans rfl
      have hfz8_0 := blk_frozen BK194.out 0
      have hfz8_1 := blk_frozen BK194.out 1
      have hfz8_2 := blk_frozen BK194.out 2
      go_wp2
      go_meet
      case rel => exact ⟨_, (false), (by first | rfl | (simp; done) | (simp [*]; done)), H', ⟨by first | omega | exact Nat.le_refl _⟩, ⟨by (with_reducible repeat (first | refine blk_drewN ?_ _ | refine blk_drew ?_ | refine blk_alloc ?_ _)); exact BK194.out⟩, ⟨by repeat (first | (with_reducible first | exact HB.out | apply below_alloc | apply pw_below_drewN | apply below_drew1 | refine below_set ?_ GE194.out) | exact HB.out)⟩⟩
  case rest =>
    clear HC2
    try clear c2
    try clear p2
    try clear c4
    try clear c4b0
    try clear c4b1
    try clear c5
    try clear c5b0
    try clear p6
    try clear hcz6_0
    try clear hcz6_1
    try clear hcz6_2
    try clear hcz7_0
    try clear hcz7_1
    try clear hcz7_2
    try clear hcz8_0
    try clear hcz8_1
    try clear hcz8_2
    try clear hfz6_0
    try clear hfz6_1
    try clear hfz6_2
    try clear hfz7_0
    try clear hfz7_1
    try clear hfz7_2
    try clear hfz8_0
    try clear hfz8_1
    try clear hfz8_2
    obtain ⟨kq, x24_1, rfl, HA, HJ1, BK194, HB⟩ := hcut
    cases kq with
    | zero => exact absurd HA.out (by simp [spec_DecimalInt.j0])
    | succ kj1 =>
      have H := HA.out
      clear HA
      simp only [spec_DecimalInt.j0] at H
      by_cases c9 : x24_1 = true
      · subst c9
        have H1 : (some (0, false)) = some (r1, r2) := by rw [if_pos rfl] at H; exact H
        clear H
        have H := H1
        clear H1
        simp only [Option.some.injEq, Prod.mk.injEq] at H
        obtain ⟨rfl, rfl⟩ := H
        go_wp2
        go_ret2
        exact ⟨by first | rfl | (simp [errW_none, errW_some] <;> rfl) | (simp [*, errW_none, errW_some] <;> rfl), by repeat (first | (with_reducible first | exact HB.out | apply below_alloc | apply pw_below_drewN | apply below_drew1 | refine below_set ?_ GE194.out) | exact HB.out)⟩
      · replace c9 := Bool.eq_false_iff.mpr c9
        subst c9
        have H1 : ((spec_wide.f kj1 a0_0 l0_1 a0_2 0).bind fun t195 => (spec_DecimalInt.l0 kj1 0 t195 (t195.length : Int) 0 a0_0 l0_1 a0_2)) = some (r1, r2) := by rw [if_neg (show ¬ (false = true) by decide)] at H; exact H
        clear H
        have H := H1
        clear H1
        replace H := Option.bind_eq_some_iff.mp H
        obtain ⟨t195, A100, H⟩ := H
        replace H : (spec_DecimalInt.l0 kj1 0 t195 (t195.length : Int) 0 a0_0 l0_1 a0_2) = some (r1, r2) := H
        have A10 := Aside0.mk A100
        clear A100
        have H' := Aside0.mk H
        clear H
        have hcz11_0 : wc.cell? ⟨gb194, 0, none⟩ = some (.bool a0_0) := (blk_cell BK194.out 0).trans rfl
        have hcz11_1 : wc.cell? ⟨gb194, 1, none⟩ = some (.slice A0_1 l0_1.length c0_1) := (blk_cell BK194.out 1).trans rfl
        have hcz11_2 : wc.cell? ⟨gb194, 2, none⟩ = some (.int .i64 a0_2) := (blk_cell BK194.out 2).trans rfl
        have hfz11_0 := blk_frozen BK194.out 0
        have hfz11_1 := blk_frozen BK194.out 1
        have hfz11_2 := blk_frozen BK194.out 2
        go_wp2_with (first | ((with_reducible refine gate_callee (f := 32) rfl ?_); refine goesL_ (some 26) rfl rfl Try.func32 (by kernel_rfl) rfl #[.agg #[.bool a0_0, .slice A0_1 l0_1.length c0_1, .int .i64 a0_2], .int .i64 0] rfl (by (try simp only [List.map_toArray, List.map_cons, List.map_nil]); first | done | rfl | (simp only [List.length_drop, List.length_take]; rfl)) ?_; (with_reducible refine (spec_wide.calls kj1 a0_0 _ _ l0_1 a0_2 0 t195 _ ?side1 ?side2 A10.out).mono ?_); (case side1 => repeat (first | exact (Kd.C_below HR0_1.out HB.out) | (with_reducible refine Kd.C_alloc ?_ _) | (with_reducible refine Kd.C_drewN ?_ _) | (with_reducible refine Kd.C_drew ?_))); (case side2 => exact HC0_1.out); rintro e w12 ⟨v196, rfl, ho0, hb⟩; refine ⟨_, rfl, ?_⟩; have n0_ := Aside0.mk (Kd.R_lower ho0 (below_size (by repeat (first | (with_reducible first | exact HB.out | apply below_alloc | apply pw_below_drewN | apply below_drew1 | refine below_set ?_ GE194.out) | exact HB.out)))); have n1_ := Aside0.mk (blk_below (g := gb194) (o := .cells #[.bool a0_0, .slice A0_1 l0_1.length c0_1, .int .i64 a0_2] 24 (0, 0)) (by (with_reducible repeat (first | refine blk_drewN ?_ _ | refine blk_drew ?_ | refine blk_alloc ?_ _)); exact BK194.out) hb); have n2_ := Aside0.mk (below_step (by repeat (first | (with_reducible first | exact HB.out | apply below_alloc | apply pw_below_drewN | apply below_drew1 | refine below_set ?_ GE194.out) | exact HB.out)) hb); clear BK194; clear HB; have HO197 := n0_; have BK194 := n1_; have HB := n2_; clear n0_ n1_ n2_; (try clear hb); (try clear hb2); (try clear hk); (try clear hi); (try clear ho0); obtain ⟨Ao13, co13, eo13⟩ := Kd.R_slice HO197.out; subst eo13))
        go_loopg [4, 28] kj1 (fun kq v4 v28 w' => ∃ (x4_2 : Int) (x28_2 : Int), v4 = .int .u64 x4_2 ∧ v28 = .int .i64 x28_2 ∧ Aside0 (spec_DecimalInt.l0 kq x4_2 t195 (t195.length : Int) x28_2 a0_0 l0_1 a0_2 = some (r1, r2)) ∧ Aside0 (kq ≤ kj1) ∧ Aside0 (Kd.R (Kd.int .i64) 3 w' w.heap.size (fun _ => True) (.slice Ao13 t195.length co13) t195) ∧ Aside0 (w'.heap[gb194]? = some (.cells #[.bool a0_0, (.slice A0_1 l0_1.length c0_1), .int .i64 a0_2] 24 (0, 0))) ∧ Aside0 (Below w.heap.size w w'))
        case atStart => exact ⟨(0), (0), (by first | rfl | (simp; done) | (simp [*]; done)), (by first | rfl | (simp; done) | (simp [*]; done)), H', ⟨Nat.le_refl _⟩, ⟨by (with_reducible repeat (first | apply Kd.R_alloc | apply Kd.R_drewN | apply Kd.R_drew)); exact HO197.out⟩, ⟨by (with_reducible repeat (first | refine blk_drewN ?_ _ | refine blk_drew ?_ | refine blk_alloc ?_ _)); exact BK194.out⟩, ⟨by repeat (first | (with_reducible first | exact HB.out | apply below_alloc | apply pw_below_drewN | apply below_drew1 | refine below_set ?_ GE194.out) | exact HB.out)⟩⟩
        case round =>
          clear H'
          try clear c2
          try clear p2
          try clear c3
          try clear c4
          try clear c4b0
          try clear c4b1
          try clear c5
          try clear c5b0
          try clear p6
          try clear c9
          try clear hcz11_0
          try clear hcz11_1
          try clear hcz11_2
          try clear hcz6_0
          try clear hcz6_1
          try clear hcz6_2
          try clear hcz7_0
          try clear hcz7_1
          try clear hcz7_2
          try clear hcz8_0
          try clear hcz8_1
          try clear hcz8_2
          try clear hfz11_0
          try clear hfz11_1
          try clear hfz11_2
          try clear hfz6_0
          try clear hfz6_1
          try clear hfz6_2
          try clear hfz7_0
          try clear hfz7_1
          try clear hfz7_2
          try clear hfz8_0
          try clear hfz8_1
          try clear hfz8_2
          try clear p2
          try clear p6
          obtain ⟨x4_2, x28_2, rfl, rfl, HA, HK2, HO_26, BK194, HB⟩ := hrel
          cases gk with
          | zero => exact absurd HA.out (by simp [spec_DecimalInt.l0])
          | succ k2 =>
            have H := HA.out
            clear HA
            simp only [spec_DecimalInt.l0] at H
            by_cases c14 : x28_2 < (t195.length : Int)
            · rw [if_pos c14] at H
              have c14b0 : decide (x28_2 < (t195.length : Int)) = true := decide_eq_true c14
              clear c14
              by_cases c15 : 0 ≤ x28_2
              · rw [if_pos c15] at H
                have c15b0 : decide (0 ≤ x28_2) = true := decide_eq_true c15
                clear c15
                by_cases c16 : x28_2 < (t195.length : Int)
                · rw [if_pos c16] at H
                  have c16b0 : decide (x28_2 < (t195.length : Int)) = true := decide_eq_true c16
                  clear c16
                  have H' := Aside0.mk H
                  clear H
                  have p198 : 0 ≤ (x28_2 : Int) := of_decide_eq_true (by first | (with_reducible assumption) | assumption)
                  have q198 : x28_2 < (t195.length : Int) := of_decide_eq_true (by first | (with_reducible assumption) | assumption)
                  obtain ⟨ad198, e198, hx198_0⟩ := Kd.at_int (Kd.R_reads' HO_26.out).2.2 x28_2 p198 q198
                  cases e198
                  replace p198 := eq_true p198
                  replace q198 := eq_true q198
                  go_wp2
                  go_roundg k2
                  case measure => have := HJ1.out; have := HK2.out; omega
                  case rel => exact ⟨(IntKind.u64.wrap ((IntKind.u64.wrap (10 * x4_2)) + (IntKind.u64.wrap (rd t195 x28_2)))), (wrap64 (x28_2 + 1)), (by first | rfl | (simp; done) | (simp [*]; done)), (by first | rfl | (simp; done) | (simp [*]; done)), H', ⟨by have := HJ1.out; have := HK2.out; omega⟩, ⟨by (with_reducible repeat (first | apply Kd.R_alloc | apply Kd.R_drewN | apply Kd.R_drew)); exact HO_26.out⟩, ⟨by (with_reducible repeat (first | refine blk_drewN ?_ _ | refine blk_drew ?_ | refine blk_alloc ?_ _)); exact BK194.out⟩, ⟨by repeat (first | (with_reducible first | exact HB.out | apply below_alloc | apply pw_below_drewN | apply below_drew1 | refine below_set ?_ GE194.out) | exact HB.out)⟩⟩
                · rw [if_neg c16] at H
                  exact absurd H (by simp)
              · rw [if_neg c15] at H
                exact absurd H (by simp)
            · rw [if_neg c14] at H
              have c14b0 : decide (x28_2 < (t195.length : Int)) = false := decide_eq_false c14
              clear c14
              by_cases c17 : a0_0 = true
              · subst c17
                have H1 : (some (wrap64 (IntKind.u64.wrap (-x4_2)), decide (x4_2 ≤ 9223372036854775808))) = some (r1, r2) := by rw [if_pos rfl] at H; exact H
                clear H
                have H := H1
                clear H1
                simp only [Option.some.injEq, Prod.mk.injEq] at H
                obtain ⟨rfl, rfl⟩ := H
                have hcz18_0 : wr.cell? ⟨gb194, 0, none⟩ = some (.bool true) := (blk_cell BK194.out 0).trans rfl
                have hcz18_1 : wr.cell? ⟨gb194, 1, none⟩ = some (.slice A0_1 l0_1.length c0_1) := (blk_cell BK194.out 1).trans rfl
                have hcz18_2 : wr.cell? ⟨gb194, 2, none⟩ = some (.int .i64 a0_2) := (blk_cell BK194.out 2).trans rfl
                have hfz18_0 := blk_frozen BK194.out 0
                have hfz18_1 := blk_frozen BK194.out 1
                have hfz18_2 := blk_frozen BK194.out 2
                go_wp2
                go_ret2
                exact ⟨by first | rfl | (simp [errW_none, errW_some] <;> rfl) | (simp [*, errW_none, errW_some] <;> rfl), by repeat (first | (with_reducible first | exact HB.out | apply below_alloc | apply pw_below_drewN | apply below_drew1 | refine below_set ?_ GE194.out) | exact HB.out)⟩
              · replace c17 := Bool.eq_false_iff.mpr c17
                subst c17
                have H1 : (some (wrap64 (x4_2), decide (x4_2 < 9223372036854775808))) = some (r1, r2) := by rw [if_neg (show ¬ (false = true) by decide)] at H; exact H
                clear H
                have H := H1
                clear H1
                simp only [Option.some.injEq, Prod.mk.injEq] at H
                obtain ⟨rfl, rfl⟩ := H
                have hcz19_0 : wr.cell? ⟨gb194, 0, none⟩ = some (.bool false) := (blk_cell BK194.out 0).trans rfl
                have hcz19_1 : wr.cell? ⟨gb194, 1, none⟩ = some (.slice A0_1 l0_1.length c0_1) := (blk_cell BK194.out 1).trans rfl
                have hcz19_2 : wr.cell? ⟨gb194, 2, none⟩ = some (.int .i64 a0_2) := (blk_cell BK194.out 2).trans rfl
                have hfz19_0 := blk_frozen BK194.out 0
                have hfz19_1 := blk_frozen BK194.out 1
                have hfz19_2 := blk_frozen BK194.out 2
                go_wp2
                go_ret2
                exact ⟨by first | rfl | (simp [errW_none, errW_some] <;> rfl) | (simp [*, errW_none, errW_some] <;> rfl), by repeat (first | (with_reducible first | exact HB.out | apply below_alloc | apply pw_below_drewN | apply below_drew1 | refine below_set ?_ GE194.out) | exact HB.out)⟩

/-! ### laws_scaleFits: function 11 -/
def laws_scaleFits.f (k : Nat) (a0_0 : Bool) (l0_1 : List Int) (a0_2 : Int) : Option (Int × Bool) := (spec_DecimalInt.f k a0_0 l0_1 a0_2).bind fun bt200 => (some (bt200.1, bt200.2))
theorem laws_scaleFits.mono : ∀ a0 a1 a2 k, LeO (laws_scaleFits.f k a0 a1 a2) (laws_scaleFits.f (k + 1) a0 a1 a2) := by
  intro a0 a1 a2 k
  unfold laws_scaleFits.f
  repeat' first
      | (with_reducible exact spec_DecimalInt.mono _ _ _ _)
      | (with_reducible exact LeO.refl _)
      | (with_reducible exact LeO.none _)
      | (with_reducible refine LeO.ite ?_ ?_)
      | (with_reducible refine LeO.bind ?_ (fun _ => ?_))
      | exact spec_DecimalInt.mono _ _ _ _
      | exact LeO.none _
      | refine LeO.ite ?_ ?_
      | refine LeO.bind ?_ (fun _ => ?_)
set_option maxHeartbeats 8000000 in
set_option maxRecDepth 100000 in
theorem laws_scaleFits.calls (k : Nat) (a0_0 : Bool) (A0_1 : Option Addr) (c0_1 : Nat) (l0_1 : List Int) (a0_2 : Int) (r1 : Int) (r2 : Bool) (w : World) (hr0_1 : Kd.C (Kd.int .i64) w A0_1 l0_1.length l0_1) (hc0_1 : l0_1.length ≤ c0_1) (h : laws_scaleFits.f k a0_0 l0_1 a0_2 = some (r1, r2)) :
    Calls Try.prog 11 #[.agg #[.bool a0_0, .slice A0_1 l0_1.length c0_1, .int .i64 a0_2]] w fun e w' => e = .returned (.tuple #[.int .i64 r1, .bool r2]) ∧ Below w.heap.size w w' := by
  have hu24 := Try.underlying24
  have HR0_1 := Aside0.mk hr0_1
  have HC0_1 := Aside0.mk hc0_1
  clear hr0_1 hc0_1
  have HB := Aside0.mk (Below.refl w.heap.size w)
  have H : ((spec_DecimalInt.f k a0_0 l0_1 a0_2).bind fun bt200 => (some (bt200.1, bt200.2))) = some (r1, r2) := h
  clear h
  replace H := Option.bind_eq_some_iff.mp H
  obtain ⟨⟨t200, t201⟩, A20, H⟩ := H
  replace H : (some (t200, t201)) = some (r1, r2) := H
  have A2 := Aside0.mk A20
  clear A20
  simp only [Option.some.injEq, Prod.mk.injEq] at H
  obtain ⟨rfl, rfl⟩ := H
  go_enter Try.func11, Try.ntmps11
  go_wp2_with (first | ((with_reducible refine gate_dst (N := 1) rfl ?_); refine box_event ?hg (N := 1) ?hd (cs := #[.bool a0_0, .slice A0_1 l0_1.length c0_1, .int .i64 a0_2]) (t := 24) ?hr ?_; (case hd => rfl); (case hg => rfl); (case hr => first | (go_simp; done) | (go_simp; rfl)); intro gb199 hg w3 hbox hb; have n0_ := Aside0.mk (below_step (by repeat (first | (with_reducible first | exact HB.out | apply below_alloc | apply pw_below_drewN | apply below_drew1) | exact HB.out)) hb); have n1_ := Aside0.mk (hbox); have n2_ := Aside0.mk ((by rw [hg]; exact (below_size (by repeat (first | (with_reducible first | exact HB.out | apply below_alloc | apply pw_below_drewN | apply below_drew1) | exact HB.out))) : w.heap.size ≤ gb199)); have n3_ := Aside0.mk ((by rw [hg]; exact (below_size (by repeat (first | (with_reducible first | exact HB.out | apply below_alloc | apply pw_below_drewN | apply below_drew1) | exact HB.out))) : w.heap.size ≤ gb199)); clear HB; have HB := n0_; have BK199 := n1_; have GW199 := n2_; have GE199 := n3_; clear n0_ n1_ n2_ n3_; clear hb hbox hg; have hcz4_0 : w3.cell? ⟨gb199, 0, none⟩ = some (.bool a0_0) := (blk_cell BK199.out 0).trans rfl; have hcz4_1 : w3.cell? ⟨gb199, 1, none⟩ = some (.slice A0_1 l0_1.length c0_1) := (blk_cell BK199.out 1).trans rfl; have hcz4_2 : w3.cell? ⟨gb199, 2, none⟩ = some (.int .i64 a0_2) := (blk_cell BK199.out 2).trans rfl; have hfz4_0 := blk_frozen BK199.out 0; have hfz4_1 := blk_frozen BK199.out 1; have hfz4_2 := blk_frozen BK199.out 2) | ((with_reducible refine gate_callee (f := 25) rfl ?_); refine goesL_ (some 5) rfl rfl Try.func25 (by kernel_rfl) rfl #[.agg #[.bool a0_0, .slice A0_1 l0_1.length c0_1, .int .i64 a0_2]] rfl (by (try simp only [List.map_toArray, List.map_cons, List.map_nil]); first | done | rfl | (simp only [List.length_drop, List.length_take]; rfl)) ?_; (with_reducible refine (spec_DecimalInt.calls k a0_0 _ _ l0_1 a0_2 t200 t201 _ ?side1 ?side2 A2.out).mono ?_); (case side1 => repeat (first | exact (Kd.C_below HR0_1.out HB.out) | (with_reducible refine Kd.C_alloc ?_ _) | (with_reducible refine Kd.C_drewN ?_ _) | (with_reducible refine Kd.C_drew ?_))); (case side2 => exact HC0_1.out); rintro e w5 ⟨rfl, hb⟩; refine ⟨_, rfl, ?_⟩; have n0_ := Aside0.mk (blk_below (g := gb199) (o := .cells #[.bool a0_0, .slice A0_1 l0_1.length c0_1, .int .i64 a0_2] 24 (0, 0)) (by (with_reducible repeat (first | refine blk_drewN ?_ _ | refine blk_drew ?_ | refine blk_alloc ?_ _)); exact BK199.out) hb); have n1_ := Aside0.mk (below_step (by repeat (first | (with_reducible first | exact HB.out | apply below_alloc | apply pw_below_drewN | apply below_drew1 | refine below_set ?_ GE199.out) | exact HB.out)) hb); clear BK199; clear HB; have BK199 := n0_; have HB := n1_; clear n0_ n1_; (try clear hb); (try clear hb2); (try clear hk); (try clear hi)))
  go_ret2
  exact ⟨by first | rfl | (simp [errW_none, errW_some] <;> rfl) | (simp [*, errW_none, errW_some] <;> rfl), by repeat (first | (with_reducible first | exact HB.out | apply below_alloc | apply pw_below_drewN | apply below_drew1 | refine below_set ?_ GE199.out) | exact HB.out)⟩

/-! ### resource_int64Add: function 50 -/
mutual
def resource_int64Add.j0 : Nat → Int → Int → Int → Bool → Option (Int × Bool)
  | 0, _, _, _, _ => none
  | k + 1, x0, x1, x6, x10 => if x10 = true then (if x6 < 0 then (some (0, false)) else (some (x6, true))) else (if x0 < 0 then (resource_int64Add.j1 k x0 x1 x6 (decide (x1 < 0))) else (resource_int64Add.j1 k x0 x1 x6 false))
def resource_int64Add.j1 : Nat → Int → Int → Int → Bool → Option (Int × Bool)
  | 0, _, _, _, _ => none
  | k + 1, x0, x1, x6, x19 => if x19 = true then (if x6 > 0 then (some (0, false)) else (if x0 = (-9223372036854775808) then (if x1 = (-9223372036854775808) then (some (0, false)) else (some (x6, true))) else (some (x6, true)))) else (some (x6, true))
end
def resource_int64Add.f (k : Nat) (a0 : Int) (a1 : Int) : Option (Int × Bool) := if a0 > 0 then (resource_int64Add.j0 k a0 a1 (wrap64 (a0 + a1)) (decide (a1 > 0))) else (resource_int64Add.j0 k a0 a1 (wrap64 (a0 + a1)) false)
theorem resource_int64Add.mono_l : ∀ k, (∀ y0 y1 y2 y3, LeO (resource_int64Add.j0 k y0 y1 y2 y3) (resource_int64Add.j0 (k + 1) y0 y1 y2 y3)) ∧ (∀ y0 y1 y2 y3, LeO (resource_int64Add.j1 k y0 y1 y2 y3) (resource_int64Add.j1 (k + 1) y0 y1 y2 y3))
  | 0 => ⟨fun _ _ _ _ r h => by simp [resource_int64Add.j0] at h, fun _ _ _ _ r h => by simp [resource_int64Add.j1] at h⟩
  | k + 1 => by
    obtain ⟨ih0, ih1⟩ := resource_int64Add.mono_l k
    refine ⟨?_, ?_⟩
    · intro y0 y1 y2 y3
      unfold resource_int64Add.j0
      repeat' first
      | (with_reducible exact ih0 _ _ _ _)
      | (with_reducible exact ih1 _ _ _ _)
      | (with_reducible exact LeO.refl _)
      | (with_reducible exact LeO.none _)
      | (with_reducible refine LeO.ite ?_ ?_)
      | (with_reducible refine LeO.bind ?_ (fun _ => ?_))
      | exact ih0 _ _ _ _
      | exact ih1 _ _ _ _
      | exact LeO.none _
      | refine LeO.ite ?_ ?_
      | refine LeO.bind ?_ (fun _ => ?_)
    · intro y0 y1 y2 y3
      unfold resource_int64Add.j1
      repeat' first
      | (with_reducible exact ih0 _ _ _ _)
      | (with_reducible exact ih1 _ _ _ _)
      | (with_reducible exact LeO.refl _)
      | (with_reducible exact LeO.none _)
      | (with_reducible refine LeO.ite ?_ ?_)
      | (with_reducible refine LeO.bind ?_ (fun _ => ?_))
      | exact ih0 _ _ _ _
      | exact ih1 _ _ _ _
      | exact LeO.none _
      | refine LeO.ite ?_ ?_
      | refine LeO.bind ?_ (fun _ => ?_)
theorem resource_int64Add.mono : ∀ a0 a1 k, LeO (resource_int64Add.f k a0 a1) (resource_int64Add.f (k + 1) a0 a1) := by
  intro a0 a1 k
  obtain ⟨ih0, ih1⟩ := resource_int64Add.mono_l k
  unfold resource_int64Add.f
  repeat' first
      | (with_reducible exact ih0 _ _ _ _)
      | (with_reducible exact ih1 _ _ _ _)
      | (with_reducible exact LeO.refl _)
      | (with_reducible exact LeO.none _)
      | (with_reducible refine LeO.ite ?_ ?_)
      | (with_reducible refine LeO.bind ?_ (fun _ => ?_))
      | exact ih0 _ _ _ _
      | exact ih1 _ _ _ _
      | exact LeO.none _
      | refine LeO.ite ?_ ?_
      | refine LeO.bind ?_ (fun _ => ?_)
set_option maxHeartbeats 8000000 in
set_option maxRecDepth 100000 in
theorem resource_int64Add.calls (k : Nat) (a0 : Int) (a1 : Int) (r1 : Int) (r2 : Bool) (w : World) (h : resource_int64Add.f k a0 a1 = some (r1, r2)) :
    Calls Try.prog 50 #[.int .i64 a0, .int .i64 a1] w fun e w' => e = .returned (.tuple #[.int .i64 r1, .bool r2]) ∧ Drawn0 w w' := by
  have H : (if a0 > 0 then (resource_int64Add.j0 k a0 a1 (wrap64 (a0 + a1)) (decide (a1 > 0))) else (resource_int64Add.j0 k a0 a1 (wrap64 (a0 + a1)) false)) = some (r1, r2) := h
  clear h
  have HC3 := Aside0.mk H
  clear H
  go_enter Try.func50, Try.ntmps50
  go_upto_region 2 with (fail)
  go_cut [10] (fun v10 wc => ∃ (kq : Nat) (x10_2 : Bool), v10 = .bool x10_2 ∧ Aside0 (resource_int64Add.j0 kq a0 a1 (wrap64 (a0 + a1)) x10_2 = some (r1, r2)) ∧ Aside0 (kq ≤ k) ∧ Drawn0 w wc)
  case first =>
    have H := HC3.out
    clear HC3
    by_cases c4 : a0 > 0
    · rw [if_pos c4] at H
      have c4b0 : decide (0 < a0) = true := decide_eq_true c4
      clear c4
      (first | rw [c4b0] | (simp only [i64_w, i32_w]; rw [c4b0]) | skip)
      have H' := Aside0.mk H
      clear H
      go_wp2
      go_meet
      case rel => exact ⟨_, (decide (a1 > 0)), (by first | rfl | (simp; done) | (simp [*]; done)), H', ⟨by first | omega | exact Nat.le_refl _⟩, by repeat (first | exact Drawn0.refl _ | apply Drawn0.step)⟩
    · rw [if_neg c4] at H
      have c4b0 : decide (0 < a0) = false := decide_eq_false c4
      clear c4
      (first | rw [c4b0] | (simp only [i64_w, i32_w]; rw [c4b0]) | skip)
      have H' := Aside0.mk H
      clear H
      go_wp2
      go_meet
      case rel => exact ⟨_, (false), (by first | rfl | (simp; done) | (simp [*]; done)), H', ⟨by first | omega | exact Nat.le_refl _⟩, by repeat (first | exact Drawn0.refl _ | apply Drawn0.step)⟩
  case rest =>
    clear HC3
    try clear p2
    try clear c4
    try clear c4b0
    obtain ⟨kq, x10_2, rfl, HA, HJ2, ⟨mc2, rfl⟩⟩ := hcut
    cases kq with
    | zero => exact absurd HA.out (by simp [resource_int64Add.j0])
    | succ kj2 =>
      have H := HA.out
      clear HA
      simp only [resource_int64Add.j0] at H
      by_cases c5 : x10_2 = true
      · subst c5
        have H1 : (if (wrap64 (a0 + a1)) < 0 then (some (0, false)) else (some ((wrap64 (a0 + a1)), true))) = some (r1, r2) := by rw [if_pos rfl] at H; exact H
        clear H
        have H := H1
        clear H1
        by_cases c6 : (wrap64 (a0 + a1)) < 0
        · rw [if_pos c6] at H
          have c6b0 : decide ((wrap64 (a0 + a1)) < 0) = true := decide_eq_true c6
          clear c6
          simp only [Option.some.injEq, Prod.mk.injEq] at H
          obtain ⟨rfl, rfl⟩ := H
          go_wp2
          go_ret2
          exact ⟨by first | rfl | (simp; done) | (simp [*]; done), by repeat (first | exact Drawn0.refl _ | apply Drawn0.step)⟩
        · rw [if_neg c6] at H
          have c6b0 : decide ((wrap64 (a0 + a1)) < 0) = false := decide_eq_false c6
          clear c6
          simp only [Option.some.injEq, Prod.mk.injEq] at H
          obtain ⟨rfl, rfl⟩ := H
          go_wp2
          go_ret2
          exact ⟨by first | rfl | (simp; done) | (simp [*]; done), by repeat (first | exact Drawn0.refl _ | apply Drawn0.step)⟩
      · replace c5 := Bool.eq_false_iff.mpr c5
        subst c5
        have H1 : (if a0 < 0 then (resource_int64Add.j1 kj2 a0 a1 (wrap64 (a0 + a1)) (decide (a1 < 0))) else (resource_int64Add.j1 kj2 a0 a1 (wrap64 (a0 + a1)) false)) = some (r1, r2) := by rw [if_neg (show ¬ (false = true) by decide)] at H; exact H
        clear H
        have H := H1
        clear H1
        have HC7 := Aside0.mk H
        clear H
        go_upto_region 5 with (fail)
        go_cut [19] (fun v19 wc => ∃ (kq : Nat) (x19_6 : Bool), v19 = .bool x19_6 ∧ Aside0 (resource_int64Add.j1 kq a0 a1 (wrap64 (a0 + a1)) x19_6 = some (r1, r2)) ∧ Aside0 (kq ≤ kj2) ∧ Drawn0 w wc)
        case first =>
          have H := HC7.out
          clear HC7
          by_cases c8 : a0 < 0
          · rw [if_pos c8] at H
            have c8b0 : decide (a0 < 0) = true := decide_eq_true c8
            clear c8
            (first | rw [c8b0] | (simp only [i64_w, i32_w]; rw [c8b0]) | skip)
            have H' := Aside0.mk H
            clear H
            go_wp2
            go_meet
            case rel => exact ⟨_, (decide (a1 < 0)), (by first | rfl | (simp; done) | (simp [*]; done)), H', ⟨by have := HJ2.out; first | omega | exact Nat.le_refl _⟩, by repeat (first | exact Drawn0.refl _ | apply Drawn0.step)⟩
          · rw [if_neg c8] at H
            have c8b0 : decide (a0 < 0) = false := decide_eq_false c8
            clear c8
            (first | rw [c8b0] | (simp only [i64_w, i32_w]; rw [c8b0]) | skip)
            have H' := Aside0.mk H
            clear H
            go_wp2
            go_meet
            case rel => exact ⟨_, (false), (by first | rfl | (simp; done) | (simp [*]; done)), H', ⟨by have := HJ2.out; first | omega | exact Nat.le_refl _⟩, by repeat (first | exact Drawn0.refl _ | apply Drawn0.step)⟩
        case rest =>
          clear HC7
          try clear c2
          try clear p2
          try clear c4
          try clear c4b0
          try clear c5
          try clear c6
          try clear c6b0
          try clear p6
          try clear c8
          try clear c8b0
          try clear p2
          obtain ⟨kq, x19_6, rfl, HA, HJ6, ⟨mc6, rfl⟩⟩ := hcut
          cases kq with
          | zero => exact absurd HA.out (by simp [resource_int64Add.j1])
          | succ kj6 =>
            have H := HA.out
            clear HA
            simp only [resource_int64Add.j1] at H
            by_cases c9 : x19_6 = true
            · subst c9
              have H1 : (if (wrap64 (a0 + a1)) > 0 then (some (0, false)) else (if a0 = (-9223372036854775808) then (if a1 = (-9223372036854775808) then (some (0, false)) else (some ((wrap64 (a0 + a1)), true))) else (some ((wrap64 (a0 + a1)), true)))) = some (r1, r2) := by rw [if_pos rfl] at H; exact H
              clear H
              have H := H1
              clear H1
              by_cases c10 : (wrap64 (a0 + a1)) > 0
              · rw [if_pos c10] at H
                have c10b0 : decide (0 < (wrap64 (a0 + a1))) = true := decide_eq_true c10
                clear c10
                simp only [Option.some.injEq, Prod.mk.injEq] at H
                obtain ⟨rfl, rfl⟩ := H
                go_wp2
                go_ret2
                exact ⟨by first | rfl | (simp; done) | (simp [*]; done), by repeat (first | exact Drawn0.refl _ | apply Drawn0.step)⟩
              · rw [if_neg c10] at H
                have c10b0 : decide (0 < (wrap64 (a0 + a1))) = false := decide_eq_false c10
                clear c10
                by_cases c11 : a0 = (-9223372036854775808)
                · rw [if_pos c11] at H
                  have c11b0 : (a0 == (-9223372036854775808)) = true := beq_iff_eq.mpr c11
                  have c11b1 : (a0 != (-9223372036854775808)) = false := bne_eq_false_iff_eq.mpr c11
                  clear c11
                  by_cases c12 : a1 = (-9223372036854775808)
                  · rw [if_pos c12] at H
                    have c12b0 : (a1 == (-9223372036854775808)) = true := beq_iff_eq.mpr c12
                    have c12b1 : (a1 != (-9223372036854775808)) = false := bne_eq_false_iff_eq.mpr c12
                    clear c12
                    simp only [Option.some.injEq, Prod.mk.injEq] at H
                    obtain ⟨rfl, rfl⟩ := H
                    go_wp2
                    go_ret2
                    exact ⟨by first | rfl | (simp; done) | (simp [*]; done), by repeat (first | exact Drawn0.refl _ | apply Drawn0.step)⟩
                  · rw [if_neg c12] at H
                    have c12b0 : (a1 == (-9223372036854775808)) = false := beq_eq_false_iff_ne.mpr c12
                    have c12b1 : (a1 != (-9223372036854775808)) = true := bne_iff_ne.mpr c12
                    simp only [Option.some.injEq, Prod.mk.injEq] at H
                    obtain ⟨rfl, rfl⟩ := H
                    go_wp2
                    go_ret2
                    exact ⟨by first | rfl | (simp; done) | (simp [*]; done), by repeat (first | exact Drawn0.refl _ | apply Drawn0.step)⟩
                · rw [if_neg c11] at H
                  have c11b0 : (a0 == (-9223372036854775808)) = false := beq_eq_false_iff_ne.mpr c11
                  have c11b1 : (a0 != (-9223372036854775808)) = true := bne_iff_ne.mpr c11
                  simp only [Option.some.injEq, Prod.mk.injEq] at H
                  obtain ⟨rfl, rfl⟩ := H
                  go_wp2
                  go_ret2
                  exact ⟨by first | rfl | (simp; done) | (simp [*]; done), by repeat (first | exact Drawn0.refl _ | apply Drawn0.step)⟩
            · replace c9 := Bool.eq_false_iff.mpr c9
              subst c9
              have H1 : (some ((wrap64 (a0 + a1)), true)) = some (r1, r2) := by rw [if_neg (show ¬ (false = true) by decide)] at H; exact H
              clear H
              have H := H1
              clear H1
              simp only [Option.some.injEq, Prod.mk.injEq] at H
              obtain ⟨rfl, rfl⟩ := H
              go_wp2
              go_ret2
              exact ⟨by first | rfl | (simp; done) | (simp [*]; done), by repeat (first | exact Drawn0.refl _ | apply Drawn0.step)⟩

/-! ### resource_ZzAdd: function 34 -/
def resource_ZzAdd.f (k : Nat) (a0 : Int) (a1 : Int) : Option (Int × Bool) := (resource_int64Add.f k a0 a1).bind fun bt202 => (some (bt202.1, bt202.2))
theorem resource_ZzAdd.mono : ∀ a0 a1 k, LeO (resource_ZzAdd.f k a0 a1) (resource_ZzAdd.f (k + 1) a0 a1) := by
  intro a0 a1 k
  unfold resource_ZzAdd.f
  repeat' first
      | (with_reducible exact resource_int64Add.mono _ _ _)
      | (with_reducible exact LeO.refl _)
      | (with_reducible exact LeO.none _)
      | (with_reducible refine LeO.ite ?_ ?_)
      | (with_reducible refine LeO.bind ?_ (fun _ => ?_))
      | exact resource_int64Add.mono _ _ _
      | exact LeO.none _
      | refine LeO.ite ?_ ?_
      | refine LeO.bind ?_ (fun _ => ?_)
set_option maxHeartbeats 8000000 in
set_option maxRecDepth 100000 in
theorem resource_ZzAdd.calls (k : Nat) (a0 : Int) (a1 : Int) (r1 : Int) (r2 : Bool) (w : World) (h : resource_ZzAdd.f k a0 a1 = some (r1, r2)) :
    Calls Try.prog 34 #[.int .i64 a0, .int .i64 a1] w fun e w' => e = .returned (.tuple #[.int .i64 r1, .bool r2]) ∧ Drawn0 w w' := by
  have H : ((resource_int64Add.f k a0 a1).bind fun bt202 => (some (bt202.1, bt202.2))) = some (r1, r2) := h
  clear h
  replace H := Option.bind_eq_some_iff.mp H
  obtain ⟨⟨t202, t203⟩, A30, H⟩ := H
  replace H : (some (t202, t203)) = some (r1, r2) := H
  have A3 := Aside0.mk A30
  clear A30
  simp only [Option.some.injEq, Prod.mk.injEq] at H
  obtain ⟨rfl, rfl⟩ := H
  go_enter Try.func34, Try.ntmps34
  go_wp2_with (first | ((with_reducible refine gate_callee (f := 50) rfl ?_); refine goesL_ (some 8) rfl rfl Try.func50 (by kernel_rfl) rfl #[.int .i64 a0, .int .i64 a1] rfl (by (try simp only [List.map_toArray, List.map_cons, List.map_nil]); first | done | rfl | (simp only [List.length_drop, List.length_take]; rfl)) ?_; (with_reducible refine (resource_int64Add.calls k a0 a1 t202 t203 _ A3.out).mono ?_); rintro e w' ⟨rfl, ⟨nd, rfl⟩⟩; refine ⟨_, rfl, ?_⟩))
  go_ret2
  exact ⟨by first | rfl | (simp; done) | (simp [*]; done), by repeat (first | exact Drawn0.refl _ | apply Drawn0.step)⟩

/-! ### impl_Int64Add: function 12 -/
def impl_Int64Add.f (k : Nat) (a0 : Int) (a1 : Int) : Option (Int × Bool) := (resource_ZzAdd.f k a0 a1).bind fun bt204 => (some (bt204.1, bt204.2))
theorem impl_Int64Add.mono : ∀ a0 a1 k, LeO (impl_Int64Add.f k a0 a1) (impl_Int64Add.f (k + 1) a0 a1) := by
  intro a0 a1 k
  unfold impl_Int64Add.f
  repeat' first
      | (with_reducible exact resource_ZzAdd.mono _ _ _)
      | (with_reducible exact LeO.refl _)
      | (with_reducible exact LeO.none _)
      | (with_reducible refine LeO.ite ?_ ?_)
      | (with_reducible refine LeO.bind ?_ (fun _ => ?_))
      | exact resource_ZzAdd.mono _ _ _
      | exact LeO.none _
      | refine LeO.ite ?_ ?_
      | refine LeO.bind ?_ (fun _ => ?_)
set_option maxHeartbeats 8000000 in
set_option maxRecDepth 100000 in
theorem impl_Int64Add.calls (k : Nat) (a0 : Int) (a1 : Int) (r1 : Int) (r2 : Bool) (w : World) (h : impl_Int64Add.f k a0 a1 = some (r1, r2)) :
    Calls Try.prog 12 #[.int .i64 a0, .int .i64 a1] w fun e w' => e = .returned (.tuple #[.int .i64 r1, .bool r2]) ∧ Drawn0 w w' := by
  have H : ((resource_ZzAdd.f k a0 a1).bind fun bt204 => (some (bt204.1, bt204.2))) = some (r1, r2) := h
  clear h
  replace H := Option.bind_eq_some_iff.mp H
  obtain ⟨⟨t204, t205⟩, A30, H⟩ := H
  replace H : (some (t204, t205)) = some (r1, r2) := H
  have A3 := Aside0.mk A30
  clear A30
  simp only [Option.some.injEq, Prod.mk.injEq] at H
  obtain ⟨rfl, rfl⟩ := H
  go_enter Try.func12, Try.ntmps12
  go_wp2_with (first | ((with_reducible refine gate_callee (f := 34) rfl ?_); refine goesL_ (some 8) rfl rfl Try.func34 (by kernel_rfl) rfl #[.int .i64 a0, .int .i64 a1] rfl (by (try simp only [List.map_toArray, List.map_cons, List.map_nil]); first | done | rfl | (simp only [List.length_drop, List.length_take]; rfl)) ?_; (with_reducible refine (resource_ZzAdd.calls k a0 a1 t204 t205 _ A3.out).mono ?_); rintro e w' ⟨rfl, ⟨nd, rfl⟩⟩; refine ⟨_, rfl, ?_⟩))
  go_ret2
  exact ⟨by first | rfl | (simp; done) | (simp [*]; done), by repeat (first | exact Drawn0.refl _ | apply Drawn0.step)⟩

end Go.Proofs.Ytpchihkegmihiaa.PFnScaleSums
