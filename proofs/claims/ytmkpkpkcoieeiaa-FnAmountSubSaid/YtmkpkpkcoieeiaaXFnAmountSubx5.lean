/- A text of this session: the functions of the law FnAmountSub, by a program that calls the kit's print and lays this session's own contracts of single functions beside. -/
import Derived.Test.YtmkpkpkcoieeiaaXFnAmountSubx0
import Derived.Test.YtmkpkpkcoieeiaaXFnAmountSubx1
import Derived.Test.YtmkpkpkcoieeiaaXFnAmountSubx4
namespace Go.Proofs.Ytmkpkpkcoieeiaa.XFnAmountSub
open Go.RowKit Go.Proofs.YtmkpkpkcoieeiaaW.PrintWords Go.Proofs.YtmkpkpkcoieeiaaW.PrintLast Go.Proofs.YtmkpkpkcoieeiaaW.PrintMore
attribute [local go_sem] max2_int min2_int max_two min_two max_three min_three max_four min_four   -- for this text's walks alone
set_option linter.unusedVariables false
set_option linter.unusedSimpArgs false

/-! ### spec_sum: function 24 -/
mutual
def spec_sum.l0 : Nat → Bool → List Int → List Int → Bool → Int → List Int → Int → Int → Option (Bool × List Int × Int)
  | 0, _, _, _, _, _, _, _, _ => none
  | k + 1, x0, x1, x2, x3, x4, x11, x12, x13 => if x13 < (x1.length : Int) then (spec_sum.j1 k x0 x1 x2 x3 x4 x11 x12 x13 true) else (if x13 < (x2.length : Int) then (spec_sum.j1 k x0 x1 x2 x3 x4 x11 x12 x13 true) else (spec_sum.j1 k x0 x1 x2 x3 x4 x11 x12 x13 (x12 != 0)))
def spec_sum.j1 : Nat → Bool → List Int → List Int → Bool → Int → List Int → Int → Int → Bool → Option (Bool × List Int × Int)
  | 0, _, _, _, _, _, _, _, _, _ => none
  | k + 1, x0, x1, x2, x3, x4, x11, x12, x13, x28 => if x28 = true then ((spec_at.f x1 x13).bind fun t185 => (if x3 = true then ((spec_at.f x2 x13).bind fun t186 => (spec_sum.j2 k x0 x1 x2 x3 x4 x11 x13 (wrap64 ((wrap64 (t185 + x12)) - t186)))) else ((spec_at.f x2 x13).bind fun t187 => (spec_sum.j2 k x0 x1 x2 x3 x4 x11 x13 (wrap64 ((wrap64 (t185 + x12)) + t187)))))) else ((spec_decimal.f k x0 x11 x4).bind fun bt180 => (some (bt180.1, bt180.2.1, bt180.2.2)))
def spec_sum.j2 : Nat → Bool → List Int → List Int → Bool → Int → List Int → Int → Int → Option (Bool × List Int × Int)
  | 0, _, _, _, _, _, _, _, _ => none
  | k + 1, x0, x1, x2, x3, x4, x11, x13, x14 => spec_sum.l1 k x0 x1 x2 x3 x4 x11 0 x13 x14
def spec_sum.l1 : Nat → Bool → List Int → List Int → Bool → Int → List Int → Int → Int → Int → Option (Bool × List Int × Int)
  | 0, _, _, _, _, _, _, _, _, _ => none
  | k + 1, x0, x1, x2, x3, x4, x11, x12, x13, x14 => if x14 < 0 then (spec_sum.l1 k x0 x1 x2 x3 x4 x11 (wrap64 (x12 - 1)) x13 (wrap64 (x14 + 10))) else (spec_sum.l2 k x0 x1 x2 x3 x4 x11 x12 x13 x14)
def spec_sum.l2 : Nat → Bool → List Int → List Int → Bool → Int → List Int → Int → Int → Int → Option (Bool × List Int × Int)
  | 0, _, _, _, _, _, _, _, _, _ => none
  | k + 1, x0, x1, x2, x3, x4, x11, x12, x13, x14 => if x14 > 9 then (spec_sum.l2 k x0 x1 x2 x3 x4 x11 (wrap64 (x12 + 1)) x13 (wrap64 (x14 - 10))) else ((some (([x14] : List Int) : List Int)).bind fun y188 => (if y188.length + x11.length < 17592186044416 then (spec_sum.l0 k x0 x1 x2 x3 x4 (y188 ++ x11) x12 (wrap64 (x13 + 1))) else (none)))
end
def spec_sum.f (k : Nat) (a0 : Bool) (l1 : List Int) (l2 : List Int) (a3 : Bool) (a4 : Int) : Option (Bool × List Int × Int) := spec_sum.l0 k a0 l1 l2 a3 a4 ([] : List Int) 0 0
theorem spec_sum.mono_l : ∀ k, (∀ y0 y1 y2 y3 y4 y5 y6 y7, LeO (spec_sum.l0 k y0 y1 y2 y3 y4 y5 y6 y7) (spec_sum.l0 (k + 1) y0 y1 y2 y3 y4 y5 y6 y7)) ∧ (∀ y0 y1 y2 y3 y4 y5 y6 y7 y8, LeO (spec_sum.j1 k y0 y1 y2 y3 y4 y5 y6 y7 y8) (spec_sum.j1 (k + 1) y0 y1 y2 y3 y4 y5 y6 y7 y8)) ∧ (∀ y0 y1 y2 y3 y4 y5 y6 y7, LeO (spec_sum.j2 k y0 y1 y2 y3 y4 y5 y6 y7) (spec_sum.j2 (k + 1) y0 y1 y2 y3 y4 y5 y6 y7)) ∧ (∀ y0 y1 y2 y3 y4 y5 y6 y7 y8, LeO (spec_sum.l1 k y0 y1 y2 y3 y4 y5 y6 y7 y8) (spec_sum.l1 (k + 1) y0 y1 y2 y3 y4 y5 y6 y7 y8)) ∧ (∀ y0 y1 y2 y3 y4 y5 y6 y7 y8, LeO (spec_sum.l2 k y0 y1 y2 y3 y4 y5 y6 y7 y8) (spec_sum.l2 (k + 1) y0 y1 y2 y3 y4 y5 y6 y7 y8))
  | 0 => ⟨fun _ _ _ _ _ _ _ _ r h => by simp [spec_sum.l0] at h, fun _ _ _ _ _ _ _ _ _ r h => by simp [spec_sum.j1] at h, fun _ _ _ _ _ _ _ _ r h => by simp [spec_sum.j2] at h, fun _ _ _ _ _ _ _ _ _ r h => by simp [spec_sum.l1] at h, fun _ _ _ _ _ _ _ _ _ r h => by simp [spec_sum.l2] at h⟩
  | k + 1 => by
    obtain ⟨ih0, ih1, ih2, ih3, ih4⟩ := spec_sum.mono_l k
    refine ⟨?_, ?_, ?_, ?_, ?_⟩
    · intro y0 y1 y2 y3 y4 y5 y6 y7
      unfold spec_sum.l0
      repeat' first
      | (with_reducible exact ih0 _ _ _ _ _ _ _ _)
      | (with_reducible exact ih1 _ _ _ _ _ _ _ _ _)
      | (with_reducible exact ih2 _ _ _ _ _ _ _ _)
      | (with_reducible exact ih3 _ _ _ _ _ _ _ _ _)
      | (with_reducible exact ih4 _ _ _ _ _ _ _ _ _)
      | (with_reducible exact spec_decimal.mono _ _ _ _)
      | (with_reducible exact LeO.refl _)
      | (with_reducible exact LeO.none _)
      | (with_reducible refine LeO.ite ?_ ?_)
      | (with_reducible refine LeO.bind ?_ (fun _ => ?_))
      | exact ih0 _ _ _ _ _ _ _ _
      | exact ih1 _ _ _ _ _ _ _ _ _
      | exact ih2 _ _ _ _ _ _ _ _
      | exact ih3 _ _ _ _ _ _ _ _ _
      | exact ih4 _ _ _ _ _ _ _ _ _
      | exact spec_decimal.mono _ _ _ _
      | exact LeO.none _
      | refine LeO.ite ?_ ?_
      | refine LeO.bind ?_ (fun _ => ?_)
    · intro y0 y1 y2 y3 y4 y5 y6 y7 y8
      unfold spec_sum.j1
      repeat' first
      | (with_reducible exact ih0 _ _ _ _ _ _ _ _)
      | (with_reducible exact ih1 _ _ _ _ _ _ _ _ _)
      | (with_reducible exact ih2 _ _ _ _ _ _ _ _)
      | (with_reducible exact ih3 _ _ _ _ _ _ _ _ _)
      | (with_reducible exact ih4 _ _ _ _ _ _ _ _ _)
      | (with_reducible exact spec_decimal.mono _ _ _ _)
      | (with_reducible exact LeO.refl _)
      | (with_reducible exact LeO.none _)
      | (with_reducible refine LeO.ite ?_ ?_)
      | (with_reducible refine LeO.bind ?_ (fun _ => ?_))
      | exact ih0 _ _ _ _ _ _ _ _
      | exact ih1 _ _ _ _ _ _ _ _ _
      | exact ih2 _ _ _ _ _ _ _ _
      | exact ih3 _ _ _ _ _ _ _ _ _
      | exact ih4 _ _ _ _ _ _ _ _ _
      | exact spec_decimal.mono _ _ _ _
      | exact LeO.none _
      | refine LeO.ite ?_ ?_
      | refine LeO.bind ?_ (fun _ => ?_)
    · intro y0 y1 y2 y3 y4 y5 y6 y7
      unfold spec_sum.j2
      repeat' first
      | (with_reducible exact ih0 _ _ _ _ _ _ _ _)
      | (with_reducible exact ih1 _ _ _ _ _ _ _ _ _)
      | (with_reducible exact ih2 _ _ _ _ _ _ _ _)
      | (with_reducible exact ih3 _ _ _ _ _ _ _ _ _)
      | (with_reducible exact ih4 _ _ _ _ _ _ _ _ _)
      | (with_reducible exact spec_decimal.mono _ _ _ _)
      | (with_reducible exact LeO.refl _)
      | (with_reducible exact LeO.none _)
      | (with_reducible refine LeO.ite ?_ ?_)
      | (with_reducible refine LeO.bind ?_ (fun _ => ?_))
      | exact ih0 _ _ _ _ _ _ _ _
      | exact ih1 _ _ _ _ _ _ _ _ _
      | exact ih2 _ _ _ _ _ _ _ _
      | exact ih3 _ _ _ _ _ _ _ _ _
      | exact ih4 _ _ _ _ _ _ _ _ _
      | exact spec_decimal.mono _ _ _ _
      | exact LeO.none _
      | refine LeO.ite ?_ ?_
      | refine LeO.bind ?_ (fun _ => ?_)
    · intro y0 y1 y2 y3 y4 y5 y6 y7 y8
      unfold spec_sum.l1
      repeat' first
      | (with_reducible exact ih0 _ _ _ _ _ _ _ _)
      | (with_reducible exact ih1 _ _ _ _ _ _ _ _ _)
      | (with_reducible exact ih2 _ _ _ _ _ _ _ _)
      | (with_reducible exact ih3 _ _ _ _ _ _ _ _ _)
      | (with_reducible exact ih4 _ _ _ _ _ _ _ _ _)
      | (with_reducible exact spec_decimal.mono _ _ _ _)
      | (with_reducible exact LeO.refl _)
      | (with_reducible exact LeO.none _)
      | (with_reducible refine LeO.ite ?_ ?_)
      | (with_reducible refine LeO.bind ?_ (fun _ => ?_))
      | exact ih0 _ _ _ _ _ _ _ _
      | exact ih1 _ _ _ _ _ _ _ _ _
      | exact ih2 _ _ _ _ _ _ _ _
      | exact ih3 _ _ _ _ _ _ _ _ _
      | exact ih4 _ _ _ _ _ _ _ _ _
      | exact spec_decimal.mono _ _ _ _
      | exact LeO.none _
      | refine LeO.ite ?_ ?_
      | refine LeO.bind ?_ (fun _ => ?_)
    · intro y0 y1 y2 y3 y4 y5 y6 y7 y8
      unfold spec_sum.l2
      repeat' first
      | (with_reducible exact ih0 _ _ _ _ _ _ _ _)
      | (with_reducible exact ih1 _ _ _ _ _ _ _ _ _)
      | (with_reducible exact ih2 _ _ _ _ _ _ _ _)
      | (with_reducible exact ih3 _ _ _ _ _ _ _ _ _)
      | (with_reducible exact ih4 _ _ _ _ _ _ _ _ _)
      | (with_reducible exact spec_decimal.mono _ _ _ _)
      | (with_reducible exact LeO.refl _)
      | (with_reducible exact LeO.none _)
      | (with_reducible refine LeO.ite ?_ ?_)
      | (with_reducible refine LeO.bind ?_ (fun _ => ?_))
      | exact ih0 _ _ _ _ _ _ _ _
      | exact ih1 _ _ _ _ _ _ _ _ _
      | exact ih2 _ _ _ _ _ _ _ _
      | exact ih3 _ _ _ _ _ _ _ _ _
      | exact ih4 _ _ _ _ _ _ _ _ _
      | exact spec_decimal.mono _ _ _ _
      | exact LeO.none _
      | refine LeO.ite ?_ ?_
      | refine LeO.bind ?_ (fun _ => ?_)
theorem spec_sum.mono : ∀ a0 a1 a2 a3 a4 k, LeO (spec_sum.f k a0 a1 a2 a3 a4) (spec_sum.f (k + 1) a0 a1 a2 a3 a4) := by
  intro a0 a1 a2 a3 a4 k
  obtain ⟨ih0, ih1, ih2, ih3, ih4⟩ := spec_sum.mono_l k
  unfold spec_sum.f
  repeat' first
      | (with_reducible exact ih0 _ _ _ _ _ _ _ _)
      | (with_reducible exact ih1 _ _ _ _ _ _ _ _ _)
      | (with_reducible exact ih2 _ _ _ _ _ _ _ _)
      | (with_reducible exact ih3 _ _ _ _ _ _ _ _ _)
      | (with_reducible exact ih4 _ _ _ _ _ _ _ _ _)
      | (with_reducible exact spec_decimal.mono _ _ _ _)
      | (with_reducible exact LeO.refl _)
      | (with_reducible exact LeO.none _)
      | (with_reducible refine LeO.ite ?_ ?_)
      | (with_reducible refine LeO.bind ?_ (fun _ => ?_))
      | exact ih0 _ _ _ _ _ _ _ _
      | exact ih1 _ _ _ _ _ _ _ _ _
      | exact ih2 _ _ _ _ _ _ _ _
      | exact ih3 _ _ _ _ _ _ _ _ _
      | exact ih4 _ _ _ _ _ _ _ _ _
      | exact spec_decimal.mono _ _ _ _
      | exact LeO.none _
      | refine LeO.ite ?_ ?_
      | refine LeO.bind ?_ (fun _ => ?_)
set_option maxHeartbeats 8000000 in
set_option maxRecDepth 100000 in
theorem spec_sum.calls (k : Nat) (a0 : Bool) (A1 : Option Addr) (c1 : Nat) (l1 : List Int) (A2 : Option Addr) (c2 : Nat) (l2 : List Int) (a3 : Bool) (a4 : Int) (r1 : Bool) (r2 : List Int) (r3 : Int) (w : World) (hr1 : Kd.C (Kd.int .i64) w A1 l1.length l1) (hc1 : l1.length ≤ c1) (hr2 : Kd.C (Kd.int .i64) w A2 l2.length l2) (hc2 : l2.length ≤ c2) (h : spec_sum.f k a0 l1 l2 a3 a4 = some (r1, r2, r3)) :
    Calls Try.prog 24 #[.bool a0, .slice A1 l1.length c1, .slice A2 l2.length c2, .bool a3, .int .i64 a4] w fun e w' => ∃ v1_ : Value, e = .returned (.agg #[.bool r1, v1_, .int .i64 r3]) ∧ Kd.R (Kd.int .i64) 3 w' w.heap.size (fun _ => True) v1_ r2 ∧ Below w.heap.size w w' := by
  have hu32 := Try.underlying32
  have HR1 := Aside0.mk hr1
  have HC1 := Aside0.mk hc1
  clear hr1 hc1
  have HR2 := Aside0.mk hr2
  have HC2 := Aside0.mk hc2
  clear hr2 hc2
  have HB := Aside0.mk (Below.refl w.heap.size w)
  have H : (spec_sum.l0 k a0 l1 l2 a3 a4 ([] : List Int) 0 0) = some (r1, r2, r3) := h
  clear h
  have H' := Aside0.mk H
  clear H
  go_enter Try.func24, Try.ntmps24
  go_wp2_with (first | ((with_reducible refine gate_dst (N := 10) rfl ?_); (try (refine gate_guard (by rfl) ?_; dsimp only)); refine box_event ?hg (N := 10) ?hd (cs := #[.bool false, .slice none 0 0, .int .i64 0]) (t := 32) ?hr ?_; (case hd => rfl); (case hg => rfl); (case hr => first | (go_simp; done) | (go_simp; rfl)); intro gb179 hg w6 hbox hb; have n0_ := Aside0.mk (below_step (by repeat (first | (with_reducible first | exact HB.out | apply below_alloc | apply pw_below_drewN | apply below_drew1) | exact HB.out)) hb); have n1_ := Aside0.mk (hbox); have n2_ := Aside0.mk ((by rw [hg]; exact (below_size (by repeat (first | (with_reducible first | exact HB.out | apply below_alloc | apply pw_below_drewN | apply below_drew1) | exact HB.out))) : w.heap.size ≤ gb179)); have n3_ := Aside0.mk ((by rw [hg]; exact (below_size (by repeat (first | (with_reducible first | exact HB.out | apply below_alloc | apply pw_below_drewN | apply below_drew1) | exact HB.out))) : w.heap.size ≤ gb179)); clear HB; have HB := n0_; have BK179 := n1_; have GW179 := n2_; have GE179 := n3_; clear n0_ n1_ n2_ n3_; clear hb hbox hg))
  go_loopg [11, 12, 13] k (fun kq v11 v12 v13 w' => ∃ (x11_1 : List Int) (x12_1 : Int) (x13_1 : Int), v12 = .int .i64 x12_1 ∧ v13 = .int .i64 x13_1 ∧ Aside0 (spec_sum.l0 kq a0 l1 l2 a3 a4 x11_1 x12_1 x13_1 = some (r1, r2, r3)) ∧ Aside0 (kq ≤ k) ∧ Aside0 (Kd.R (Kd.int .i64) 3 w' w.heap.size (fun _ => True) v11 x11_1) ∧ Aside0 (w'.heap[gb179]? = some (.cells #[.bool false, (.slice none 0 0), .int .i64 0] 32 (0, 0))) ∧ Aside0 (Below w.heap.size w w'))
  case atStart => exact ⟨(([] : List Int)), (0), (0), (by first | rfl | (simp; done) | (simp [*]; done)), (by first | rfl | (simp; done) | (simp [*]; done)), H', ⟨Nat.le_refl _⟩, ⟨by first | exact Kd.R_nil _ _ _ _ _ | exact Kd.N_nil _ _ _ _ _ | exact Kd.V_nil _ _ _ _ _ | exact Kd.Q_nil _ _ _ _ _ | exact Kd.S_nil _ _ _ _ _⟩, ⟨by (with_reducible repeat (first | refine blk_drewN ?_ _ | refine blk_drew ?_ | refine blk_alloc ?_ _)); exact BK179.out⟩, ⟨by repeat (first | (with_reducible first | exact HB.out | apply below_alloc | apply pw_below_drewN | apply below_drew1 | refine below_set ?_ GE179.out) | exact HB.out)⟩⟩
  case round =>
    clear H'
    try clear c1
    try clear c2
    try clear p2
    obtain ⟨x11_1, x12_1, x13_1, rfl, rfl, HA, HK1, HO_11, BK179, HB⟩ := hrel
    cases gk with
    | zero => exact absurd HA.out (by simp [spec_sum.l0])
    | succ k1 =>
      have H := HA.out
      clear HA
      simp only [spec_sum.l0] at H
      have HC7 := Aside0.mk H
      clear H
      go_upto_region 4 with (fail)
      go_cut [28] (fun v28 wc => ∃ (kq : Nat) (x28_6 : Bool), v28 = .bool x28_6 ∧ Aside0 (spec_sum.j1 kq a0 l1 l2 a3 a4 x11_1 x12_1 x13_1 x28_6 = some (r1, r2, r3)) ∧ Aside0 (kq ≤ k1) ∧ Aside0 (Kd.R (Kd.int .i64) 3 wc w.heap.size (fun _ => True) u11 x11_1) ∧ Aside0 (wc.heap[gb179]? = some (.cells #[.bool false, (.slice none 0 0), .int .i64 0] 32 (0, 0))) ∧ Aside0 (Below w.heap.size w wc))
      case first =>
        have H := HC7.out
        clear HC7
        by_cases c8 : x13_1 < (l1.length : Int)
        · rw [if_pos c8] at H
          have c8b0 : decide (x13_1 < (l1.length : Int)) = true := decide_eq_true c8
          clear c8
          (first | rw [c8b0] | (simp only [i64_w, i32_w]; rw [c8b0]) | skip)
          have H' := Aside0.mk H
          clear H
          go_wp2
          go_meet
          case rel => exact ⟨_, (true), (by first | rfl | (simp; done) | (simp [*]; done)), H', ⟨by have := HK1.out; first | omega | exact Nat.le_refl _⟩, ⟨by (with_reducible repeat (first | apply Kd.R_alloc | apply Kd.R_drewN | apply Kd.R_drew)); exact HO_11.out⟩, ⟨by (with_reducible repeat (first | refine blk_drewN ?_ _ | refine blk_drew ?_ | refine blk_alloc ?_ _)); exact BK179.out⟩, ⟨by repeat (first | (with_reducible first | exact HB.out | apply below_alloc | apply pw_below_drewN | apply below_drew1 | refine below_set ?_ GE179.out) | exact HB.out)⟩⟩
        · rw [if_neg c8] at H
          have c8b0 : decide (x13_1 < (l1.length : Int)) = false := decide_eq_false c8
          clear c8
          (first | rw [c8b0] | (simp only [i64_w, i32_w]; rw [c8b0]) | skip)
          by_cases c9 : x13_1 < (l2.length : Int)
          · rw [if_pos c9] at H
            have c9b0 : decide (x13_1 < (l2.length : Int)) = true := decide_eq_true c9
            clear c9
            have H' := Aside0.mk H
            clear H
            go_wp2
            go_meet
            case rel => exact ⟨_, (true), (by first | rfl | (simp; done) | (simp [*]; done)), H', ⟨by have := HK1.out; first | omega | exact Nat.le_refl _⟩, ⟨by (with_reducible repeat (first | apply Kd.R_alloc | apply Kd.R_drewN | apply Kd.R_drew)); exact HO_11.out⟩, ⟨by (with_reducible repeat (first | refine blk_drewN ?_ _ | refine blk_drew ?_ | refine blk_alloc ?_ _)); exact BK179.out⟩, ⟨by repeat (first | (with_reducible first | exact HB.out | apply below_alloc | apply pw_below_drewN | apply below_drew1 | refine below_set ?_ GE179.out) | exact HB.out)⟩⟩
          · rw [if_neg c9] at H
            have c9b0 : decide (x13_1 < (l2.length : Int)) = false := decide_eq_false c9
            clear c9
            have H' := Aside0.mk H
            clear H
            go_wp2
            go_meet
            case rel => exact ⟨_, ((x12_1 != 0)), (by first | rfl | (simp; done) | (simp [*]; done)), H', ⟨by have := HK1.out; first | omega | exact Nat.le_refl _⟩, ⟨by (with_reducible repeat (first | apply Kd.R_alloc | apply Kd.R_drewN | apply Kd.R_drew)); exact HO_11.out⟩, ⟨by (with_reducible repeat (first | refine blk_drewN ?_ _ | refine blk_drew ?_ | refine blk_alloc ?_ _)); exact BK179.out⟩, ⟨by repeat (first | (with_reducible first | exact HB.out | apply below_alloc | apply pw_below_drewN | apply below_drew1 | refine below_set ?_ GE179.out) | exact HB.out)⟩⟩
      case rest =>
        clear HC7
        try clear c1
        try clear c2
        try clear p2
        try clear c8
        try clear c8b0
        try clear c9
        try clear c9b0
        try clear p2
        obtain ⟨kq, x28_6, rfl, HA, HJ6, HO_11, BK179, HB⟩ := hcut
        cases kq with
        | zero => exact absurd HA.out (by simp [spec_sum.j1])
        | succ kj6 =>
          have H := HA.out
          clear HA
          simp only [spec_sum.j1] at H
          by_cases c10 : x28_6 = true
          · subst c10
            have H1 : ((spec_at.f l1 x13_1).bind fun t185 => (if a3 = true then ((spec_at.f l2 x13_1).bind fun t186 => (spec_sum.j2 kj6 a0 l1 l2 a3 a4 x11_1 x13_1 (wrap64 ((wrap64 (t185 + x12_1)) - t186)))) else ((spec_at.f l2 x13_1).bind fun t187 => (spec_sum.j2 kj6 a0 l1 l2 a3 a4 x11_1 x13_1 (wrap64 ((wrap64 (t185 + x12_1)) + t187)))))) = some (r1, r2, r3) := by rw [if_pos rfl] at H; exact H
            clear H
            have H := H1
            clear H1
            replace H := Option.bind_eq_some_iff.mp H
            obtain ⟨t185, A110, H⟩ := H
            replace H : (if a3 = true then ((spec_at.f l2 x13_1).bind fun t186 => (spec_sum.j2 kj6 a0 l1 l2 a3 a4 x11_1 x13_1 (wrap64 ((wrap64 (t185 + x12_1)) - t186)))) else ((spec_at.f l2 x13_1).bind fun t187 => (spec_sum.j2 kj6 a0 l1 l2 a3 a4 x11_1 x13_1 (wrap64 ((wrap64 (t185 + x12_1)) + t187))))) = some (r1, r2, r3) := H
            have A11 := Aside0.mk A110
            clear A110
            have HC12 := Aside0.mk H
            clear H
            go_upto_if 36 with (first | ((with_reducible refine gate_callee (f := 30) rfl ?_); refine goesL_ (some 33) rfl rfl Try.func30 (by kernel_rfl) rfl #[.slice A1 l1.length c1, .int .i64 x13_1] rfl (by (try simp only [List.map_toArray, List.map_cons, List.map_nil]); first | done | rfl | (simp only [List.length_drop, List.length_take]; rfl)) ?_; (with_reducible refine (spec_at.calls _ _ l1 x13_1 t185 _ ?side1 ?side2 A11.out).mono ?_); (case side1 => repeat (first | exact (Kd.C_below HR1.out HB.out) | (with_reducible refine Kd.C_alloc ?_ _) | (with_reducible refine Kd.C_drewN ?_ _) | (with_reducible refine Kd.C_drew ?_))); (case side2 => exact HC1.out); rintro e w' ⟨rfl, ⟨nd, rfl⟩⟩; refine ⟨_, rfl, ?_⟩))
            (try simp only [Act.put, List.setIfInBounds_toArray, List.set_cons_zero, List.set_cons_succ])
            go_cut [14] (fun v14 wc => ∃ (kq : Nat) (x14_11 : Int), v14 = .int .i64 x14_11 ∧ Aside0 (spec_sum.j2 kq a0 l1 l2 a3 a4 x11_1 x13_1 x14_11 = some (r1, r2, r3)) ∧ Aside0 (kq ≤ kj6) ∧ Aside0 (Kd.R (Kd.int .i64) 3 wc w.heap.size (fun _ => True) u11 x11_1) ∧ Aside0 (wc.heap[gb179]? = some (.cells #[.bool false, (.slice none 0 0), .int .i64 0] 32 (0, 0))) ∧ Aside0 (Below w.heap.size w wc))
            case first =>
              have H := HC12.out
              clear HC12
              by_cases c13 : a3 = true
              · subst c13
                have H1 : ((spec_at.f l2 x13_1).bind fun t186 => (spec_sum.j2 kj6 a0 l1 l2 true a4 x11_1 x13_1 (wrap64 ((wrap64 (t185 + x12_1)) - t186)))) = some (r1, r2, r3) := by rw [if_pos rfl] at H; exact H
                clear H
                have H := H1
                clear H1
                replace H := Option.bind_eq_some_iff.mp H
                obtain ⟨t186, A140, H⟩ := H
                replace H : (spec_sum.j2 kj6 a0 l1 l2 true a4 x11_1 x13_1 (wrap64 ((wrap64 (t185 + x12_1)) - t186))) = some (r1, r2, r3) := H
                have A14 := Aside0.mk A140
                clear A140
                have H' := Aside0.mk H
                clear H
                go_wp2_with (first | ((with_reducible refine gate_callee (f := 30) rfl ?_); refine goesL_ (some 40) rfl rfl Try.func30 (by kernel_rfl) rfl #[.slice A2 l2.length c2, .int .i64 x13_1] rfl (by (try simp only [List.map_toArray, List.map_cons, List.map_nil]); first | done | rfl | (simp only [List.length_drop, List.length_take]; rfl)) ?_; (with_reducible refine (spec_at.calls _ _ l2 x13_1 t186 _ ?side1 ?side2 A14.out).mono ?_); (case side1 => repeat (first | exact (Kd.C_below HR2.out HB.out) | (with_reducible refine Kd.C_alloc ?_ _) | (with_reducible refine Kd.C_drewN ?_ _) | (with_reducible refine Kd.C_drew ?_))); (case side2 => exact HC2.out); rintro e w' ⟨rfl, ⟨nd, rfl⟩⟩; refine ⟨_, rfl, ?_⟩))
                go_meet
                case rel => exact ⟨_, (wrap64 ((wrap64 (t185 + x12_1)) - t186)), (by first | rfl | (simp; done) | (simp [*]; done)), H', ⟨by have := HK1.out; have := HJ6.out; first | omega | exact Nat.le_refl _⟩, ⟨by (with_reducible repeat (first | apply Kd.R_alloc | apply Kd.R_drewN | apply Kd.R_drew)); exact HO_11.out⟩, ⟨by (with_reducible repeat (first | refine blk_drewN ?_ _ | refine blk_drew ?_ | refine blk_alloc ?_ _)); exact BK179.out⟩, ⟨by repeat (first | (with_reducible first | exact HB.out | apply below_alloc | apply pw_below_drewN | apply below_drew1 | refine below_set ?_ GE179.out) | exact HB.out)⟩⟩
              · replace c13 := Bool.eq_false_iff.mpr c13
                subst c13
                have H1 : ((spec_at.f l2 x13_1).bind fun t187 => (spec_sum.j2 kj6 a0 l1 l2 false a4 x11_1 x13_1 (wrap64 ((wrap64 (t185 + x12_1)) + t187)))) = some (r1, r2, r3) := by rw [if_neg (show ¬ (false = true) by decide)] at H; exact H
                clear H
                have H := H1
                clear H1
                replace H := Option.bind_eq_some_iff.mp H
                obtain ⟨t187, A150, H⟩ := H
                replace H : (spec_sum.j2 kj6 a0 l1 l2 false a4 x11_1 x13_1 (wrap64 ((wrap64 (t185 + x12_1)) + t187))) = some (r1, r2, r3) := H
                have A15 := Aside0.mk A150
                clear A150
                have H' := Aside0.mk H
                clear H
                go_wp2_with (first | ((with_reducible refine gate_callee (f := 30) rfl ?_); refine goesL_ (some 45) rfl rfl Try.func30 (by kernel_rfl) rfl #[.slice A2 l2.length c2, .int .i64 x13_1] rfl (by (try simp only [List.map_toArray, List.map_cons, List.map_nil]); first | done | rfl | (simp only [List.length_drop, List.length_take]; rfl)) ?_; (with_reducible refine (spec_at.calls _ _ l2 x13_1 t187 _ ?side1 ?side2 A15.out).mono ?_); (case side1 => repeat (first | exact (Kd.C_below HR2.out HB.out) | (with_reducible refine Kd.C_alloc ?_ _) | (with_reducible refine Kd.C_drewN ?_ _) | (with_reducible refine Kd.C_drew ?_))); (case side2 => exact HC2.out); rintro e w' ⟨rfl, ⟨nd, rfl⟩⟩; refine ⟨_, rfl, ?_⟩))
                go_meet
                case rel => exact ⟨_, (wrap64 ((wrap64 (t185 + x12_1)) + t187)), (by first | rfl | (simp; done) | (simp [*]; done)), H', ⟨by have := HK1.out; have := HJ6.out; first | omega | exact Nat.le_refl _⟩, ⟨by (with_reducible repeat (first | apply Kd.R_alloc | apply Kd.R_drewN | apply Kd.R_drew)); exact HO_11.out⟩, ⟨by (with_reducible repeat (first | refine blk_drewN ?_ _ | refine blk_drew ?_ | refine blk_alloc ?_ _)); exact BK179.out⟩, ⟨by repeat (first | (with_reducible first | exact HB.out | apply below_alloc | apply pw_below_drewN | apply below_drew1 | refine below_set ?_ GE179.out) | exact HB.out)⟩⟩
            case rest =>
              clear HC12
              try clear c1
              try clear c2
              try clear p2
              try clear c3
              try clear p6
              try clear c8
              try clear c8b0
              try clear c9
              try clear c9b0
              try clear c10
              try clear c13
              try clear p2
              obtain ⟨kq, x14_11, rfl, HA, HJ11, HO_11, BK179, HB⟩ := hcut
              cases kq with
              | zero => exact absurd HA.out (by simp [spec_sum.j2])
              | succ kj11 =>
                have H := HA.out
                clear HA
                simp only [spec_sum.j2] at H
                have H' := Aside0.mk H
                clear H
                go_wp2
                go_loopg [12, 14] kj11 (fun kq v12 v14 w' => ∃ (x12_4 : Int) (x14_4 : Int), v12 = .int .i64 x12_4 ∧ v14 = .int .i64 x14_4 ∧ Aside0 (spec_sum.l1 kq a0 l1 l2 a3 a4 x11_1 x12_4 x13_1 x14_4 = some (r1, r2, r3)) ∧ Aside0 (kq ≤ kj11) ∧ Aside0 (Kd.R (Kd.int .i64) 3 w' w.heap.size (fun _ => True) u11 x11_1) ∧ Aside0 (w'.heap[gb179]? = some (.cells #[.bool false, (.slice none 0 0), .int .i64 0] 32 (0, 0))) ∧ Aside0 (Below w.heap.size w w'))
                case atStart => exact ⟨(0), (x14_11), (by first | rfl | (simp; done) | (simp [*]; done)), (by first | rfl | (simp; done) | (simp [*]; done)), H', ⟨Nat.le_refl _⟩, ⟨by (with_reducible repeat (first | apply Kd.R_alloc | apply Kd.R_drewN | apply Kd.R_drew)); exact HO_11.out⟩, ⟨by (with_reducible repeat (first | refine blk_drewN ?_ _ | refine blk_drew ?_ | refine blk_alloc ?_ _)); exact BK179.out⟩, ⟨by repeat (first | (with_reducible first | exact HB.out | apply below_alloc | apply pw_below_drewN | apply below_drew1 | refine below_set ?_ GE179.out) | exact HB.out)⟩⟩
                case round =>
                  clear H'
                  try clear c1
                  try clear c2
                  try clear p2
                  try clear c3
                  try clear p6
                  try clear c8
                  try clear c8b0
                  try clear c9
                  try clear c9b0
                  try clear c10
                  try clear c13
                  try clear p2
                  try clear p6
                  obtain ⟨x12_4, x14_4, rfl, rfl, HA, HK4, HO_11, BK179, HB⟩ := hrel
                  cases gk with
                  | zero => exact absurd HA.out (by simp [spec_sum.l1])
                  | succ k4 =>
                    have H := HA.out
                    clear HA
                    simp only [spec_sum.l1] at H
                    by_cases c16 : x14_4 < 0
                    · rw [if_pos c16] at H
                      have c16b0 : decide (x14_4 < 0) = true := decide_eq_true c16
                      clear c16
                      have H' := Aside0.mk H
                      clear H
                      go_wp2
                      go_roundg k4
                      case measure => have := HK1.out; have := HJ6.out; have := HJ11.out; have := HK4.out; omega
                      case rel => exact ⟨(wrap64 (x12_4 - 1)), (wrap64 (x14_4 + 10)), (by first | rfl | (simp; done) | (simp [*]; done)), (by first | rfl | (simp; done) | (simp [*]; done)), H', ⟨by have := HK1.out; have := HJ6.out; have := HJ11.out; have := HK4.out; omega⟩, ⟨by (with_reducible repeat (first | apply Kd.R_alloc | apply Kd.R_drewN | apply Kd.R_drew)); exact HO_11.out⟩, ⟨by (with_reducible repeat (first | refine blk_drewN ?_ _ | refine blk_drew ?_ | refine blk_alloc ?_ _)); exact BK179.out⟩, ⟨by repeat (first | (with_reducible first | exact HB.out | apply below_alloc | apply pw_below_drewN | apply below_drew1 | refine below_set ?_ GE179.out) | exact HB.out)⟩⟩
                    · rw [if_neg c16] at H
                      have c16b0 : decide (x14_4 < 0) = false := decide_eq_false c16
                      clear c16
                      have H' := Aside0.mk H
                      clear H
                      go_wp2
                      go_loopg [12, 14] k4 (fun kq v12 v14 w' => ∃ (x12_5 : Int) (x14_5 : Int), v12 = .int .i64 x12_5 ∧ v14 = .int .i64 x14_5 ∧ Aside0 (spec_sum.l2 kq a0 l1 l2 a3 a4 x11_1 x12_5 x13_1 x14_5 = some (r1, r2, r3)) ∧ Aside0 (kq ≤ k4) ∧ Aside0 (Kd.R (Kd.int .i64) 3 w' w.heap.size (fun _ => True) u11 x11_1) ∧ Aside0 (w'.heap[gb179]? = some (.cells #[.bool false, (.slice none 0 0), .int .i64 0] 32 (0, 0))) ∧ Aside0 (Below w.heap.size w w'))
                      case atStart => exact ⟨(x12_4), (x14_4), (by first | rfl | (simp; done) | (simp [*]; done)), (by first | rfl | (simp; done) | (simp [*]; done)), H', ⟨Nat.le_refl _⟩, ⟨by (with_reducible repeat (first | apply Kd.R_alloc | apply Kd.R_drewN | apply Kd.R_drew)); exact HO_11.out⟩, ⟨by (with_reducible repeat (first | refine blk_drewN ?_ _ | refine blk_drew ?_ | refine blk_alloc ?_ _)); exact BK179.out⟩, ⟨by repeat (first | (with_reducible first | exact HB.out | apply below_alloc | apply pw_below_drewN | apply below_drew1 | refine below_set ?_ GE179.out) | exact HB.out)⟩⟩
                      case round =>
                        clear H'
                        try clear c1
                        try clear c2
                        try clear p2
                        try clear c3
                        try clear p6
                        try clear c8
                        try clear c8b0
                        try clear c9
                        try clear c9b0
                        try clear c10
                        try clear c13
                        try clear c16
                        try clear c16b0
                        try clear p2
                        try clear p6
                        obtain ⟨x12_5, x14_5, rfl, rfl, HA, HK5, HO_11, BK179, HB⟩ := hrel
                        cases gk with
                        | zero => exact absurd HA.out (by simp [spec_sum.l2])
                        | succ k5 =>
                          have H := HA.out
                          clear HA
                          simp only [spec_sum.l2] at H
                          by_cases c17 : x14_5 > 9
                          · rw [if_pos c17] at H
                            have c17b0 : decide (9 < x14_5) = true := decide_eq_true c17
                            clear c17
                            have H' := Aside0.mk H
                            clear H
                            go_wp2
                            go_roundg k5
                            case measure => have := HK1.out; have := HJ6.out; have := HJ11.out; have := HK4.out; have := HK5.out; omega
                            case rel => exact ⟨(wrap64 (x12_5 + 1)), (wrap64 (x14_5 - 10)), (by first | rfl | (simp; done) | (simp [*]; done)), (by first | rfl | (simp; done) | (simp [*]; done)), H', ⟨by have := HK1.out; have := HJ6.out; have := HJ11.out; have := HK4.out; have := HK5.out; omega⟩, ⟨by (with_reducible repeat (first | apply Kd.R_alloc | apply Kd.R_drewN | apply Kd.R_drew)); exact HO_11.out⟩, ⟨by (with_reducible repeat (first | refine blk_drewN ?_ _ | refine blk_drew ?_ | refine blk_alloc ?_ _)); exact BK179.out⟩, ⟨by repeat (first | (with_reducible first | exact HB.out | apply below_alloc | apply pw_below_drewN | apply below_drew1 | refine below_set ?_ GE179.out) | exact HB.out)⟩⟩
                          · rw [if_neg c17] at H
                            have c17b0 : decide (9 < x14_5) = false := decide_eq_false c17
                            clear c17
                            obtain ⟨y188, hy188⟩ : ∃ y_ : List Int, y_ = (([x14_5] : List Int)) := ⟨_, rfl⟩
                            replace H : (if y188.length + x11_1.length < 17592186044416 then (spec_sum.l0 k5 a0 l1 l2 a3 a4 (y188 ++ x11_1) x12_5 (wrap64 (x13_1 + 1))) else (none)) = some (r1, r2, r3) := by first | (rw [hy188]; with_reducible exact H) | (have H2_ := (Option.bind_some _ _).symm.trans H; rw [hy188]; with_reducible exact H2_) | (have H2_ := (Option.bind_some _ _).symm.trans H; with_reducible exact H2_) | with_reducible exact H | (rw [hy188]; exact H) | exact H
                            have Ny188 := Aside0.mk hy188
                            clear hy188
                            by_cases c18 : y188.length + x11_1.length < 17592186044416
                            · rw [if_pos c18] at H
                              have LMc18 := Aside0.mk c18
                              clear c18
                              obtain ⟨y191, hy191⟩ : ∃ y_ : List Int, y_ = (y188 ++ x11_1) := ⟨_, rfl⟩
                              replace H : (spec_sum.l0 k5 a0 l1 l2 a3 a4 y191 x12_5 (wrap64 (x13_1 + 1))) = some (r1, r2, r3) := by first | (rw [hy191]; with_reducible exact H) | (have H2_ := (Option.bind_some _ _).symm.trans H; rw [hy191]; with_reducible exact H2_) | (have H2_ := (Option.bind_some _ _).symm.trans H; with_reducible exact H2_) | with_reducible exact H | (rw [hy191]; exact H) | exact H
                              have Ny191 := Aside0.mk hy191
                              clear hy191
                              have H' := Aside0.mk H
                              clear H
                              go_wp2_with (first | ((with_reducible refine gate_dst (N := 60) rfl ?_); (try (refine gate_guard (by rfl) ?_; dsimp only)); refine Kd.R_lit (Kd.int .i64) _ 3 ?hg (N := 60) ?hd (xs := ([x14_5] : List Int)) (inner := [.int .i64 x14_5]) (ok := fun _ => True) (okp := fun _ => True) ?hr ?hp (fun _ hk => hk) trivial (Below.refl _ _) (Nat.le_refl _) (by simp) ?_; (case hd => rfl); (case hg => rfl); (case hr => first | (go_simp; done) | (go_simp; rfl)); (case hp => exact (Reps.one (show Kd.M (Kd.int .i64) _ _ _ x14_5 [.int .i64 x14_5] from rfl) (Reps.none _ _))); intro v189 w19 ho20 hb hg_ hnew_; clear hg_ hnew_; (first | rw [← Ny188.out] at ho20 | (simp only [Int.reduceToNat] at ho20; rw [← Ny188.out] at ho20)); have n0_ := Aside0.mk (Kd.R_elder' (by (with_reducible repeat (first | apply Kd.R_alloc | apply Kd.R_drewN | apply Kd.R_drew)); exact HO_11.out) (Kd.R_base ho20) hb); have n1_ := Aside0.mk (Kd.R_lower (Kd.R_new' ho20 (Kd.R_lt (by (with_reducible repeat (first | apply Kd.R_alloc | apply Kd.R_drewN | apply Kd.R_drew)); exact HO_11.out))) (below_size (by repeat (first | (with_reducible first | exact HB.out | apply below_alloc | apply pw_below_drewN | apply below_drew1 | refine below_set ?_ GE179.out) | exact HB.out)))); have n2_ := Aside0.mk (blk_below (g := gb179) (o := .cells #[.bool false, .slice none 0 0, .int .i64 0] 32 (0, 0)) (by (with_reducible repeat (first | refine blk_drewN ?_ _ | refine blk_drew ?_ | refine blk_alloc ?_ _)); exact BK179.out) hb); have n3_ := Aside0.mk (below_step (by repeat (first | (with_reducible first | exact HB.out | apply below_alloc | apply pw_below_drewN | apply below_drew1 | refine below_set ?_ GE179.out) | exact HB.out)) hb); clear HO_11; clear BK179; clear HB; have HO_11 := n0_; have HO190 := n1_; have BK179 := n2_; have HB := n3_; clear n0_ n1_ n2_ n3_; clear hb ho20; obtain ⟨Ao22, co22, eo22⟩ := Kd.R_slice HO_11.out; subst eo22) | ((with_reducible refine gate_builtin (b := .append) (xs := #[.tmp 60, .tmp 61]) rfl ?_); (try (refine gate_guard (by rfl) ?_; dsimp only)); at_builtin; refine Kd.R_append_rows (Kd.int .i64) (w0 := w) w.heap.size rfl (.tmp 60) (.tmp 61) 30 3 (.int .i64 0) 8 rfl Try.underlying30 info3 rfl (by decide) (by omega) v189 y188 x11_1 _ _ _ (fun k_ => some k_ ≠ (.slice Ao22 x11_1.length co22 : Value).ownBlock) (fun _ => False) rfl rfl ?aO ?aR (fun _ _ h => h) (fun _ h => h.elim) ?aF ?aB ?aS ?aL ?_; (case aR => repeat (first | exact (Kd.R_reads' HO_11.out).2.2 | (with_reducible refine Kd.C_alloc ?_ _) | (with_reducible refine Kd.C_drewN ?_ _) | (with_reducible refine Kd.C_drew ?_))); (case aB => exact (by repeat (first | (with_reducible first | exact HB.out | apply below_alloc | apply pw_below_drewN | apply below_drew1 | refine below_set ?_ GE179.out) | exact HB.out))); (case aF => exact (fun k_ hk => Kd.fresh' (Kd.R_lt (by (with_reducible repeat (first | apply Kd.R_alloc | apply Kd.R_drewN | apply Kd.R_drew)); exact HO_11.out)) k_ hk)); (case aO => exact (by (with_reducible repeat (first | apply Kd.R_alloc | apply Kd.R_drewN | apply Kd.R_drew)); exact Kd.R_mono HO190.out (fun _ hk => hk.2))); (case aS => exact (below_size (by repeat (first | (with_reducible first | exact HB.out | apply below_alloc | apply pw_below_drewN | apply below_drew1 | refine below_set ?_ GE179.out) | exact HB.out)))); (case aL => have := LMc18.out; omega); intro v192 w21 ho hb hg hat; rw [← Ny191.out] at ho; have n0_ := Aside0.mk (Kd.R_after (ok := (fun _ => True)) (by (with_reducible repeat (first | apply Kd.R_alloc | apply Kd.R_drewN | apply Kd.R_drew)); exact HO_11.out) hg hat); have n1_ := Aside0.mk (blk_grown (g := gb179) (o := .cells #[.bool false, .slice none 0 0, .int .i64 0] 32 (0, 0)) (by (with_reducible repeat (first | refine blk_drewN ?_ _ | refine blk_drew ?_ | refine blk_alloc ?_ _)); exact BK179.out) hg (Kd.R_ne HO190.out BK179.out (by decide))); have n2_ := Aside0.mk (hb); have n3_ := Aside0.mk (ho); clear HO_11; clear BK179; clear HB; clear HO190; have HO_11 := n0_; have BK179 := n1_; have HB := n2_; have HO193 := n3_; clear n0_ n1_ n2_ n3_; clear ho hb hg hat))
                              go_roundg k5
                              case measure => have := HK1.out; have := HJ6.out; have := HJ11.out; have := HK4.out; have := HK5.out; omega
                              case rel => exact ⟨(y191), (x12_5), (wrap64 (x13_1 + 1)), (by first | rfl | (simp; done) | (simp [*]; done)), (by first | rfl | (simp; done) | (simp [*]; done)), H', ⟨by have := HK1.out; have := HJ6.out; have := HJ11.out; have := HK4.out; have := HK5.out; omega⟩, ⟨by (with_reducible repeat (first | apply Kd.R_alloc | apply Kd.R_drewN | apply Kd.R_drew)); exact Kd.R_mono HO193.out (fun _ hk => trivial)⟩, ⟨by (with_reducible repeat (first | refine blk_drewN ?_ _ | refine blk_drew ?_ | refine blk_alloc ?_ _)); exact BK179.out⟩, ⟨by repeat (first | (with_reducible first | exact HB.out | apply below_alloc | apply pw_below_drewN | apply below_drew1 | refine below_set ?_ GE179.out) | exact HB.out)⟩⟩
                            · rw [if_neg c18] at H
                              exact absurd H (by simp)
          · replace c10 := Bool.eq_false_iff.mpr c10
            subst c10
            have H1 : ((spec_decimal.f kj6 a0 x11_1 a4).bind fun bt180 => (some (bt180.1, bt180.2.1, bt180.2.2))) = some (r1, r2, r3) := by rw [if_neg (show ¬ (false = true) by decide)] at H; exact H
            clear H
            have H := H1
            clear H1
            replace H := Option.bind_eq_some_iff.mp H
            obtain ⟨⟨t180, t181, t184⟩, A230, H⟩ := H
            replace H : (some (t180, t181, t184)) = some (r1, r2, r3) := H
            have A23 := Aside0.mk A230
            clear A230
            simp only [Option.some.injEq, Prod.mk.injEq] at H
            obtain ⟨rfl, rfl, rfl⟩ := H
            obtain ⟨Ao24, co24, eo24⟩ := Kd.R_slice HO_11.out
            subst eo24
            go_wp2_with (first | ((with_reducible refine gate_callee (f := 29) rfl ?_); refine goesL_ (some 66) rfl rfl Try.func29 (by kernel_rfl) rfl #[.bool a0, .slice Ao24 x11_1.length co24, .int .i64 a4] rfl (by (try simp only [List.map_toArray, List.map_cons, List.map_nil]); first | done | rfl | (simp only [List.length_drop, List.length_take]; rfl)) ?_; (with_reducible refine (spec_decimal.calls kj6 a0 (fun k_ => some k_ = (.slice Ao24 x11_1.length co24 : Value).ownBlock) _ _ x11_1 a4 t180 t181 t184 _ ?side1 A23.out).mono ?_); (case side1 => exact Kd.R_V (Kd.R_tight rfl (Kd.R_types (HO_11.out) BK179.out (by decide)))); rintro e w25 ⟨v182, rfl, ho0, hb⟩; refine ⟨_, rfl, ?_⟩; have n0_ := Aside0.mk (Kd.R_elder' (by (with_reducible repeat (first | apply Kd.R_alloc | apply Kd.R_drewN | apply Kd.R_drew)); exact HO_11.out) (Kd.R_base ho0) hb); have n1_ := Aside0.mk (Kd.R_lower (Kd.R_new' (Kd.R_mono (ok' := fun k_ => True) ho0 (fun _ hk_ => trivial)) (Kd.R_lt (by (with_reducible repeat (first | apply Kd.R_alloc | apply Kd.R_drewN | apply Kd.R_drew)); exact HO_11.out))) (below_size (by repeat (first | (with_reducible first | exact HB.out | apply below_alloc | apply pw_below_drewN | apply below_drew1 | refine below_set ?_ GE179.out) | exact HB.out)))); have n2_ := Aside0.mk (blk_below (g := gb179) (o := .cells #[.bool false, .slice none 0 0, .int .i64 0] 32 (0, 0)) (by (with_reducible repeat (first | refine blk_drewN ?_ _ | refine blk_drew ?_ | refine blk_alloc ?_ _)); exact BK179.out) hb); have n3_ := Aside0.mk (below_step (by repeat (first | (with_reducible first | exact HB.out | apply below_alloc | apply pw_below_drewN | apply below_drew1 | refine below_set ?_ GE179.out) | exact HB.out)) hb); clear HO_11; clear BK179; clear HB; have HO_11 := n0_; have HO183 := n1_; have BK179 := n2_; have HB := n3_; clear n0_ n1_ n2_ n3_; (try clear hb); (try clear hb2); (try clear hk); (try clear hi); (try clear ho0); have hcz26_0 : w25.cell? ⟨gb179, 0, none⟩ = some (.bool false) := (blk_cell BK179.out 0).trans rfl; have hcz26_1 : w25.cell? ⟨gb179, 1, none⟩ = some (.slice none 0 0) := (blk_cell BK179.out 1).trans rfl; have hcz26_2 : w25.cell? ⟨gb179, 2, none⟩ = some (.int .i64 0) := (blk_cell BK179.out 2).trans rfl; have hfz26_0 := blk_frozen BK179.out 0; have hfz26_1 := blk_frozen BK179.out 1; have hfz26_2 := blk_frozen BK179.out 2; obtain ⟨Ao27, co27, eo27⟩ := Kd.R_slice HO183.out; subst eo27))
            refine bodyPost_ret (results_cell_row rfl _ _ gb179 32 #[.bool t180, .slice Ao27 t181.length co27, .int .i64 t184] (0, 0) _ rfl (by (with_reducible repeat (first | refine blk_drewN ?_ _ | refine blk_drew ?_ | refine blk_alloc ?_ _)); refine blk_put (cs := #[.bool t180, .slice Ao27 t181.length co27, .int .i64 0]) ?_ 2 _ rfl; (with_reducible repeat (first | refine blk_drewN ?_ _ | refine blk_drew ?_ | refine blk_alloc ?_ _)); refine blk_put (cs := #[.bool t180, .slice none 0 0, .int .i64 0]) ?_ 1 _ rfl; (with_reducible repeat (first | refine blk_drewN ?_ _ | refine blk_drew ?_ | refine blk_alloc ?_ _)); refine blk_put (cs := #[.bool false, .slice none 0 0, .int .i64 0]) ?_ 0 _ rfl; (with_reducible repeat (first | refine blk_drewN ?_ _ | refine blk_drew ?_ | refine blk_alloc ?_ _)); exact BK179.out) Try.underlying32 rfl (by kernel_rfl)) rfl ?_
            exact ⟨_, by first | rfl | (simp [errW_none, errW_some] <;> rfl) | (simp [*, errW_none, errW_some] <;> rfl), by (with_reducible repeat (first | apply Kd.R_alloc | apply Kd.R_drewN | apply Kd.R_drew)); exact Kd.R_mono (Kd.R_far (p := ⟨gb179, 2, none⟩) (Kd.R_far (p := ⟨gb179, 1, none⟩) (Kd.R_far (p := ⟨gb179, 0, none⟩) (Kd.R_types HO183.out BK179.out (by decide)) (fun _ hk => hk.2) (.bool t180)) (fun _ hk => hk.2) (.slice Ao27 t181.length co27)) (fun _ hk => hk.2) (.int .i64 t184)) (fun _ hk => trivial), by repeat (first | (with_reducible first | exact HB.out | apply below_alloc | apply pw_below_drewN | apply below_drew1 | refine below_set ?_ GE179.out) | exact HB.out)⟩

/-! ### spec_wide: function 25 -/
def spec_wide.l0 : Nat → Int → List Int → Int → Option (List Int)
  | 0, _, _, _ => none
  | k + 1, x1, x5, x6 => if x6 > x1 then (if (x5.length : Int) > 0 then (if x5.length < 17592186044416 then (spec_wide.l0 k x1 (x5 ++ [0]) (wrap64 (x6 - 1))) else (none)) else (some x5)) else (some x5)
def spec_wide.f (k : Nat) (a0_0 : Bool) (l0_1 : List Int) (a0_2 : Int) (a1 : Int) : Option (List Int) := (some (([] : List Int) : List Int)).bind fun y195 => (if y195.length + l0_1.length < 17592186044416 then (spec_wide.l0 k a1 (y195 ++ l0_1) a0_2) else (none))
theorem spec_wide.mono_l : ∀ k, (∀ y0 y1 y2, LeO (spec_wide.l0 k y0 y1 y2) (spec_wide.l0 (k + 1) y0 y1 y2))
  | 0 => fun _ _ _ r h => by simp [spec_wide.l0] at h
  | k + 1 => by
    have ih0 := spec_wide.mono_l k
    · intro y0 y1 y2
      unfold spec_wide.l0
      repeat' first
      | (with_reducible exact ih0 _ _ _)
      | (with_reducible exact LeO.refl _)
      | (with_reducible exact LeO.none _)
      | (with_reducible refine LeO.ite ?_ ?_)
      | (with_reducible refine LeO.bind ?_ (fun _ => ?_))
      | exact ih0 _ _ _
      | exact LeO.none _
      | refine LeO.ite ?_ ?_
      | refine LeO.bind ?_ (fun _ => ?_)
theorem spec_wide.mono : ∀ a0 a1 a2 a3 k, LeO (spec_wide.f k a0 a1 a2 a3) (spec_wide.f (k + 1) a0 a1 a2 a3) := by
  intro a0 a1 a2 a3 k
  have ih0 := spec_wide.mono_l k
  unfold spec_wide.f
  repeat' first
      | (with_reducible exact ih0 _ _ _)
      | (with_reducible exact LeO.refl _)
      | (with_reducible exact LeO.none _)
      | (with_reducible refine LeO.ite ?_ ?_)
      | (with_reducible refine LeO.bind ?_ (fun _ => ?_))
      | exact ih0 _ _ _
      | exact LeO.none _
      | refine LeO.ite ?_ ?_
      | refine LeO.bind ?_ (fun _ => ?_)
set_option maxHeartbeats 8000000 in
set_option maxRecDepth 100000 in
theorem spec_wide.calls (k : Nat) (a0_0 : Bool) (A0_1 : Option Addr) (c0_1 : Nat) (l0_1 : List Int) (a0_2 : Int) (a1 : Int) (r : List Int) (w : World) (hr0_1 : Kd.C (Kd.int .i64) w A0_1 l0_1.length l0_1) (hc0_1 : l0_1.length ≤ c0_1) (h : spec_wide.f k a0_0 l0_1 a0_2 a1 = some r) :
    Calls Try.prog 25 #[.agg #[.bool a0_0, .slice A0_1 l0_1.length c0_1, .int .i64 a0_2], .int .i64 a1] w fun e w' => ∃ v0_ : Value, e = .returned (v0_) ∧ Kd.R (Kd.int .i64) 3 w' w.heap.size (fun _ => True) v0_ r ∧ Below w.heap.size w w' := by
  have hu32 := Try.underlying32
  have HR0_1 := Aside0.mk hr0_1
  have HC0_1 := Aside0.mk hc0_1
  clear hr0_1 hc0_1
  have HB := Aside0.mk (Below.refl w.heap.size w)
  have H : ((some (([] : List Int) : List Int)).bind fun y195 => (if y195.length + l0_1.length < 17592186044416 then (spec_wide.l0 k a1 (y195 ++ l0_1) a0_2) else (none))) = some r := h
  clear h
  obtain ⟨y195, hy195⟩ : ∃ y_ : List Int, y_ = (([] : List Int)) := ⟨_, rfl⟩
  replace H : (if y195.length + l0_1.length < 17592186044416 then (spec_wide.l0 k a1 (y195 ++ l0_1) a0_2) else (none)) = some r := by first | (rw [hy195]; with_reducible exact H) | (have H2_ := (Option.bind_some _ _).symm.trans H; rw [hy195]; with_reducible exact H2_) | (have H2_ := (Option.bind_some _ _).symm.trans H; with_reducible exact H2_) | with_reducible exact H | (rw [hy195]; exact H) | exact H
  have Ny195 := Aside0.mk hy195
  clear hy195
  by_cases c3 : y195.length + l0_1.length < 17592186044416
  · rw [if_pos c3] at H
    have LMc3 := Aside0.mk c3
    clear c3
    obtain ⟨y198, hy198⟩ : ∃ y_ : List Int, y_ = (y195 ++ l0_1) := ⟨_, rfl⟩
    replace H : (spec_wide.l0 k a1 y198 a0_2) = some r := by first | (rw [hy198]; with_reducible exact H) | (have H2_ := (Option.bind_some _ _).symm.trans H; rw [hy198]; with_reducible exact H2_) | (have H2_ := (Option.bind_some _ _).symm.trans H; with_reducible exact H2_) | with_reducible exact H | (rw [hy198]; exact H) | exact H
    have Ny198 := Aside0.mk hy198
    clear hy198
    have H' := Aside0.mk H
    clear H
    go_enter Try.func25, Try.ntmps25
    go_wp2_with (first | ((with_reducible refine gate_dst (N := 2) rfl ?_); (try (refine gate_guard (by rfl) ?_; dsimp only)); refine box_event ?hg (N := 2) ?hd (cs := #[.bool a0_0, .slice A0_1 l0_1.length c0_1, .int .i64 a0_2]) (t := 32) ?hr ?_; (case hd => rfl); (case hg => rfl); (case hr => first | (go_simp; done) | (go_simp; rfl)); intro gb194 hg w4 hbox hb; have n0_ := Aside0.mk (below_step (by repeat (first | (with_reducible first | exact HB.out | apply below_alloc | apply pw_below_drewN | apply below_drew1) | exact HB.out)) hb); have n1_ := Aside0.mk (hbox); have n2_ := Aside0.mk ((by rw [hg]; exact (below_size (by repeat (first | (with_reducible first | exact HB.out | apply below_alloc | apply pw_below_drewN | apply below_drew1) | exact HB.out))) : w.heap.size ≤ gb194)); have n3_ := Aside0.mk ((by rw [hg]; exact (below_size (by repeat (first | (with_reducible first | exact HB.out | apply below_alloc | apply pw_below_drewN | apply below_drew1) | exact HB.out))) : w.heap.size ≤ gb194)); clear HB; have HB := n0_; have BK194 := n1_; have GW194 := n2_; have GE194 := n3_; clear n0_ n1_ n2_ n3_; clear hb hbox hg) | ((with_reducible refine gate_dst (N := 7) rfl ?_); (try (refine gate_guard (by rfl) ?_; dsimp only)); refine Kd.R_lit (Kd.int .i64) _ 3 ?hg (N := 7) ?hd (xs := ([] : List Int)) (inner := []) (ok := fun _ => True) (okp := fun _ => True) ?hr ?hp (fun _ hk => hk) trivial (Below.refl _ _) (Nat.le_refl _) (by simp) ?_; (case hd => rfl); (case hg => rfl); (case hr => first | (go_simp; done) | (go_simp; rfl)); (case hp => exact (Reps.none _ _)); intro v196 w5 ho6 hb hg_ hnew_; clear hg_ hnew_; (first | rw [← Ny195.out] at ho6 | (simp only [Int.reduceToNat] at ho6; rw [← Ny195.out] at ho6)); have n0_ := Aside0.mk (Kd.R_lower ho6 (below_size (by repeat (first | (with_reducible first | exact HB.out | apply below_alloc | apply pw_below_drewN | apply below_drew1 | refine below_set ?_ GE194.out) | exact HB.out)))); have n1_ := Aside0.mk (blk_below (g := gb194) (o := .cells #[.bool a0_0, .slice A0_1 l0_1.length c0_1, .int .i64 a0_2] 32 (0, 0)) (by (with_reducible repeat (first | refine blk_drewN ?_ _ | refine blk_drew ?_ | refine blk_alloc ?_ _)); exact BK194.out) hb); have n2_ := Aside0.mk (below_step (by repeat (first | (with_reducible first | exact HB.out | apply below_alloc | apply pw_below_drewN | apply below_drew1 | refine below_set ?_ GE194.out) | exact HB.out)) hb); clear BK194; clear HB; have HO197 := n0_; have BK194 := n1_; have HB := n2_; clear n0_ n1_ n2_; clear hb ho6; have hcz7_0 : w5.cell? ⟨gb194, 0, none⟩ = some (.bool a0_0) := (blk_cell BK194.out 0).trans rfl; have hcz7_1 : w5.cell? ⟨gb194, 1, none⟩ = some (.slice A0_1 l0_1.length c0_1) := (blk_cell BK194.out 1).trans rfl; have hcz7_2 : w5.cell? ⟨gb194, 2, none⟩ = some (.int .i64 a0_2) := (blk_cell BK194.out 2).trans rfl; have hfz7_0 := blk_frozen BK194.out 0; have hfz7_1 := blk_frozen BK194.out 1; have hfz7_2 := blk_frozen BK194.out 2) | ((with_reducible refine gate_builtin (b := .append) (xs := #[.tmp 7, .tmp 9]) rfl ?_); (try (refine gate_guard (by rfl) ?_; dsimp only)); at_builtin; refine Kd.R_append_rows (Kd.int .i64) (w0 := w) w.heap.size rfl (.tmp 7) (.tmp 9) 30 3 (.int .i64 0) 8 rfl Try.underlying30 info3 rfl (by decide) (by omega) v196 y195 l0_1 _ _ _ (fun _ => True) (fun _ => False) rfl rfl ?aO ?aR (fun _ _ h => h) (fun _ h => h.elim) ?aF ?aB ?aS ?aL ?_; (case aR => repeat (first | exact (Kd.C_below HR0_1.out HB.out) | (with_reducible refine Kd.C_alloc ?_ _) | (with_reducible refine Kd.C_drewN ?_ _) | (with_reducible refine Kd.C_drew ?_))); (case aB => exact (by repeat (first | (with_reducible first | exact HB.out | apply below_alloc | apply pw_below_drewN | apply below_drew1 | refine below_set ?_ GE194.out) | exact HB.out))); (case aF => exact (fun _ _ => trivial)); (case aO => exact (by (with_reducible repeat (first | apply Kd.R_alloc | apply Kd.R_drewN | apply Kd.R_drew)); exact HO197.out)); (case aS => exact (below_size (by repeat (first | (with_reducible first | exact HB.out | apply below_alloc | apply pw_below_drewN | apply below_drew1 | refine below_set ?_ GE194.out) | exact HB.out)))); (case aL => have := LMc3.out; omega); intro v199 w8 ho hb hg hat; rw [← Ny198.out] at ho; have n0_ := Aside0.mk (blk_grown (g := gb194) (o := .cells #[.bool a0_0, .slice A0_1 l0_1.length c0_1, .int .i64 a0_2] 32 (0, 0)) (by (with_reducible repeat (first | refine blk_drewN ?_ _ | refine blk_drew ?_ | refine blk_alloc ?_ _)); exact BK194.out) hg (Kd.R_ne HO197.out BK194.out (by decide))); have n1_ := Aside0.mk (hb); have n2_ := Aside0.mk (ho); clear BK194; clear HB; clear HO197; have BK194 := n0_; have HB := n1_; have HO200 := n2_; clear n0_ n1_ n2_; clear ho hb hg hat; have hcz9_0 : w8.cell? ⟨gb194, 0, none⟩ = some (.bool a0_0) := (blk_cell BK194.out 0).trans rfl; have hcz9_1 : w8.cell? ⟨gb194, 1, none⟩ = some (.slice A0_1 l0_1.length c0_1) := (blk_cell BK194.out 1).trans rfl; have hcz9_2 : w8.cell? ⟨gb194, 2, none⟩ = some (.int .i64 a0_2) := (blk_cell BK194.out 2).trans rfl; have hfz9_0 := blk_frozen BK194.out 0; have hfz9_1 := blk_frozen BK194.out 1; have hfz9_2 := blk_frozen BK194.out 2))
    go_loopg [5, 6] k (fun kq v5 v6 w' => ∃ (x5_1 : List Int) (x6_1 : Int), v6 = .int .i64 x6_1 ∧ Aside0 (spec_wide.l0 kq a1 x5_1 x6_1 = some r) ∧ Aside0 (kq ≤ k) ∧ Aside0 (Kd.R (Kd.int .i64) 3 w' w.heap.size (fun _ => True) v5 x5_1) ∧ Aside0 (w'.heap[gb194]? = some (.cells #[.bool a0_0, (.slice A0_1 l0_1.length c0_1), .int .i64 a0_2] 32 (0, 0))) ∧ Aside0 (Below w.heap.size w w'))
    case atStart => exact ⟨(y198), (a0_2), (by first | rfl | (simp; done) | (simp [*]; done)), H', ⟨Nat.le_refl _⟩, ⟨by (with_reducible repeat (first | apply Kd.R_alloc | apply Kd.R_drewN | apply Kd.R_drew)); exact HO200.out⟩, ⟨by (with_reducible repeat (first | refine blk_drewN ?_ _ | refine blk_drew ?_ | refine blk_alloc ?_ _)); exact BK194.out⟩, ⟨by repeat (first | (with_reducible first | exact HB.out | apply below_alloc | apply pw_below_drewN | apply below_drew1 | refine below_set ?_ GE194.out) | exact HB.out)⟩⟩
    case round =>
      clear H'
      try clear c2
      try clear p2
      try clear c3
      try clear hcz7_0
      try clear hcz7_1
      try clear hcz7_2
      try clear hcz9_0
      try clear hcz9_1
      try clear hcz9_2
      try clear hfz7_0
      try clear hfz7_1
      try clear hfz7_2
      try clear hfz9_0
      try clear hfz9_1
      try clear hfz9_2
      obtain ⟨x5_1, x6_1, rfl, HA, HK1, HO_5, BK194, HB⟩ := hrel
      cases gk with
      | zero => exact absurd HA.out (by simp [spec_wide.l0])
      | succ k1 =>
        have H := HA.out
        clear HA
        simp only [spec_wide.l0] at H
        by_cases c10 : x6_1 > a1
        · rw [if_pos c10] at H
          have c10b0 : decide (a1 < x6_1) = true := decide_eq_true c10
          clear c10
          by_cases c11 : (x5_1.length : Int) > 0
          · rw [if_pos c11] at H
            have c11b0 : decide (0 < (x5_1.length : Int)) = true := decide_eq_true c11
            have c11b1 : decide (0 < x5_1.length) = true := decide_eq_true (by omega)
            clear c11
            by_cases c12 : x5_1.length < 17592186044416
            · rw [if_pos c12] at H
              have LMc12 := Aside0.mk c12
              clear c12
              obtain ⟨y201, hy201⟩ : ∃ y_ : List Int, y_ = (x5_1 ++ [0]) := ⟨_, rfl⟩
              replace H : (spec_wide.l0 k1 a1 y201 (wrap64 (x6_1 - 1))) = some r := by first | (rw [hy201]; with_reducible exact H) | (have H2_ := (Option.bind_some _ _).symm.trans H; rw [hy201]; with_reducible exact H2_) | (have H2_ := (Option.bind_some _ _).symm.trans H; with_reducible exact H2_) | with_reducible exact H | (rw [hy201]; exact H) | exact H
              have Ny201 := Aside0.mk hy201
              clear hy201
              have H' := Aside0.mk H
              clear H
              obtain ⟨Ao13, co13, eo13⟩ := Kd.R_slice HO_5.out
              subst eo13
              go_wp2_with (first | ((with_reducible refine gate_builtin (b := .append) (xs := #[.tmp 23, .tmp 24]) rfl ?_); (try (refine gate_guard (by rfl) ?_; dsimp only)); at_builtin; refine Kd.R_append (Kd.int .i64) (w0 := w) w.heap.size rfl (.tmp 23) (.tmp 24) 30 3 (.int .i64 0) 8 rfl Try.underlying30 info3 rfl (by decide) (by omega) (.slice Ao13 x5_1.length co13) x5_1 0 [.int .i64 0] (fun _ => True) (fun _ => False) rfl rfl ?aP (fun _ hk => hk.elim) ?aF ?aO ?aB ?aS ?aL ?_; (case aP => exact rfl); (case aB => exact (by repeat (first | (with_reducible first | exact HB.out | apply below_alloc | apply pw_below_drewN | apply below_drew1 | refine below_set ?_ GE194.out) | exact HB.out))); (case aF => exact (fun _ _ => trivial)); (case aO => exact (by (with_reducible repeat (first | apply Kd.R_alloc | apply Kd.R_drewN | apply Kd.R_drew)); exact HO_5.out)); (case aS => exact (below_size (by repeat (first | (with_reducible first | exact HB.out | apply below_alloc | apply pw_below_drewN | apply below_drew1 | refine below_set ?_ GE194.out) | exact HB.out)))); (case aL => have := LMc12.out; omega); intro v202 w14 ho hb hg hat; rw [← Ny201.out] at ho; have n0_ := Aside0.mk (blk_grown (g := gb194) (o := .cells #[.bool a0_0, .slice A0_1 l0_1.length c0_1, .int .i64 a0_2] 32 (0, 0)) (by (with_reducible repeat (first | refine blk_drewN ?_ _ | refine blk_drew ?_ | refine blk_alloc ?_ _)); exact BK194.out) hg (Kd.R_ne HO_5.out BK194.out (by decide))); have n1_ := Aside0.mk (hb); have n2_ := Aside0.mk (ho); clear BK194; clear HB; clear HO_5; have BK194 := n0_; have HB := n1_; have HO203 := n2_; clear n0_ n1_ n2_; clear ho hb hg hat))
              go_roundg k1
              case measure => have := HK1.out; omega
              case rel => exact ⟨(y201), (wrap64 (x6_1 - 1)), (by first | rfl | (simp; done) | (simp [*]; done)), H', ⟨by have := HK1.out; omega⟩, ⟨by (with_reducible repeat (first | apply Kd.R_alloc | apply Kd.R_drewN | apply Kd.R_drew)); exact HO203.out⟩, ⟨by (with_reducible repeat (first | refine blk_drewN ?_ _ | refine blk_drew ?_ | refine blk_alloc ?_ _)); exact BK194.out⟩, ⟨by repeat (first | (with_reducible first | exact HB.out | apply below_alloc | apply pw_below_drewN | apply below_drew1 | refine below_set ?_ GE194.out) | exact HB.out)⟩⟩
            · rw [if_neg c12] at H
              exact absurd H (by simp)
          · rw [if_neg c11] at H
            have c11b0 : decide (0 < (x5_1.length : Int)) = false := decide_eq_false c11
            have c11b1 : decide (0 < x5_1.length) = false := decide_eq_false (by omega)
            clear c11
            obtain rfl := Option.some.inj H
            obtain ⟨Ao15, co15, eo15⟩ := Kd.R_slice HO_5.out
            subst eo15
            go_wp2
            go_ret
            exact ⟨_, by first | rfl | (simp [errW_none, errW_some] <;> rfl) | (simp [*, errW_none, errW_some] <;> rfl), by (with_reducible repeat (first | apply Kd.R_alloc | apply Kd.R_drewN | apply Kd.R_drew)); exact HO_5.out, by repeat (first | (with_reducible first | exact HB.out | apply below_alloc | apply pw_below_drewN | apply below_drew1 | refine below_set ?_ GE194.out) | exact HB.out)⟩
        · rw [if_neg c10] at H
          have c10b0 : decide (a1 < x6_1) = false := decide_eq_false c10
          clear c10
          obtain rfl := Option.some.inj H
          go_wp2
          go_ret
          exact ⟨_, by first | rfl | (simp [errW_none, errW_some] <;> rfl) | (simp [*, errW_none, errW_some] <;> rfl), by (with_reducible repeat (first | apply Kd.R_alloc | apply Kd.R_drewN | apply Kd.R_drew)); exact HO_5.out, by repeat (first | (with_reducible first | exact HB.out | apply below_alloc | apply pw_below_drewN | apply below_drew1 | refine below_set ?_ GE194.out) | exact HB.out)⟩
  · rw [if_neg c3] at H
    exact absurd H (by simp)

end Go.Proofs.Ytmkpkpkcoieeiaa.XFnAmountSub
