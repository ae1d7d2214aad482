/- A text of this session: the functions of the law FnAmountSub, by a program that calls the kit's print and lays this session's own contracts of single functions beside. -/
import Derived.Test.YtmkpkpkcoieeiaaXFnAmountSubx0
namespace Go.Proofs.Ytmkpkpkcoieeiaa.XFnAmountSub
open Go.RowKit Go.Proofs.YtmkpkpkcoieeiaaW.PrintWords Go.Proofs.YtmkpkpkcoieeiaaW.PrintLast Go.Proofs.YtmkpkpkcoieeiaaW.PrintMore
attribute [local go_sem] max2_int min2_int max_two min_two max_three min_three max_four min_four   -- for this text's walks alone
set_option linter.unusedVariables false
set_option linter.unusedSimpArgs false

/-! ### spec_decimal: function 29 -/
mutual
def spec_decimal.j1 : Nat → Bool → List Int → Int → Option (Bool × List Int × Int)
  | 0, _, _, _ => none
  | k + 1, x0, x1, x2 => spec_decimal.l1 k x0 x1 x2
def spec_decimal.l1 : Nat → Bool → List Int → Int → Option (Bool × List Int × Int)
  | 0, _, _, _ => none
  | k + 1, x0, x1, x2 => if (x1.length : Int) > 0 then (if 0 ≤ (wrap64 ((x1.length : Int) - 1)) then (if (wrap64 ((x1.length : Int) - 1)) < (x1.length : Int) then (if (rd x1 (wrap64 ((x1.length : Int) - 1))) = 0 then (if (wrap64 ((x1.length : Int) - 1)) ≤ (x1.length : Int) then (spec_decimal.l1 k x0 (x1.take ((wrap64 ((x1.length : Int) - 1)) : Int).toNat) (wrap64 (x2 + 1))) else (none)) else (if (x1.length : Int) = 0 then (some (false, ([] : List Int), 0)) else ((some (([] : List Int) : List Int)).bind fun y114 => (if y114.length + x1.length < 17592186044416 then (some (x0, (y114 ++ x1), x2)) else (none))))) else (none)) else (none)) else (if (x1.length : Int) = 0 then (some (false, ([] : List Int), 0)) else ((some (([] : List Int) : List Int)).bind fun y120 => (if y120.length + x1.length < 17592186044416 then (some (x0, (y120 ++ x1), x2)) else (none))))
def spec_decimal.l0 : Nat → Bool → List Int → Int → Option (Bool × List Int × Int)
  | 0, _, _, _ => none
  | k + 1, x0, x1, x2 => if (x1.length : Int) > 0 then (if 0 < (x1.length : Int) then (if (rd x1 0) = 0 then (if 1 ≤ (x1.length : Int) then (spec_decimal.l0 k x0 (x1.drop 1) x2) else (none)) else (spec_decimal.j1 k x0 x1 x2)) else (none)) else (spec_decimal.j1 k x0 x1 x2)
end
def spec_decimal.f (k : Nat) (a0 : Bool) (l1 : List Int) (a2 : Int) : Option (Bool × List Int × Int) := spec_decimal.l0 k a0 l1 a2
theorem spec_decimal.mono_l : ∀ k, (∀ y0 y1 y2, LeO (spec_decimal.j1 k y0 y1 y2) (spec_decimal.j1 (k + 1) y0 y1 y2)) ∧ (∀ y0 y1 y2, LeO (spec_decimal.l1 k y0 y1 y2) (spec_decimal.l1 (k + 1) y0 y1 y2)) ∧ (∀ y0 y1 y2, LeO (spec_decimal.l0 k y0 y1 y2) (spec_decimal.l0 (k + 1) y0 y1 y2))
  | 0 => ⟨fun _ _ _ r h => by simp [spec_decimal.j1] at h, fun _ _ _ r h => by simp [spec_decimal.l1] at h, fun _ _ _ r h => by simp [spec_decimal.l0] at h⟩
  | k + 1 => by
    obtain ⟨ih0, ih1, ih2⟩ := spec_decimal.mono_l k
    refine ⟨?_, ?_, ?_⟩
    · intro y0 y1 y2
      unfold spec_decimal.j1
      repeat' first
      | (with_reducible exact ih0 _ _ _)
      | (with_reducible exact ih1 _ _ _)
      | (with_reducible exact ih2 _ _ _)
      | (with_reducible exact LeO.refl _)
      | (with_reducible exact LeO.none _)
      | (with_reducible refine LeO.ite ?_ ?_)
      | (with_reducible refine LeO.bind ?_ (fun _ => ?_))
      | exact ih0 _ _ _
      | exact ih1 _ _ _
      | exact ih2 _ _ _
      | exact LeO.none _
      | refine LeO.ite ?_ ?_
      | refine LeO.bind ?_ (fun _ => ?_)
    · intro y0 y1 y2
      unfold spec_decimal.l1
      repeat' first
      | (with_reducible exact ih0 _ _ _)
      | (with_reducible exact ih1 _ _ _)
      | (with_reducible exact ih2 _ _ _)
      | (with_reducible exact LeO.refl _)
      | (with_reducible exact LeO.none _)
      | (with_reducible refine LeO.ite ?_ ?_)
      | (with_reducible refine LeO.bind ?_ (fun _ => ?_))
      | exact ih0 _ _ _
      | exact ih1 _ _ _
      | exact ih2 _ _ _
      | exact LeO.none _
      | refine LeO.ite ?_ ?_
      | refine LeO.bind ?_ (fun _ => ?_)
    · intro y0 y1 y2
      unfold spec_decimal.l0
      repeat' first
      | (with_reducible exact ih0 _ _ _)
      | (with_reducible exact ih1 _ _ _)
      | (with_reducible exact ih2 _ _ _)
      | (with_reducible exact LeO.refl _)
      | (with_reducible exact LeO.none _)
      | (with_reducible refine LeO.ite ?_ ?_)
      | (with_reducible refine LeO.bind ?_ (fun _ => ?_))
      | exact ih0 _ _ _
      | exact ih1 _ _ _
      | exact ih2 _ _ _
      | exact LeO.none _
      | refine LeO.ite ?_ ?_
      | refine LeO.bind ?_ (fun _ => ?_)
theorem spec_decimal.mono : ∀ a0 a1 a2 k, LeO (spec_decimal.f k a0 a1 a2) (spec_decimal.f (k + 1) a0 a1 a2) := by
  intro a0 a1 a2 k
  obtain ⟨ih0, ih1, ih2⟩ := spec_decimal.mono_l k
  unfold spec_decimal.f
  repeat' first
      | (with_reducible exact ih0 _ _ _)
      | (with_reducible exact ih1 _ _ _)
      | (with_reducible exact ih2 _ _ _)
      | (with_reducible exact LeO.refl _)
      | (with_reducible exact LeO.none _)
      | (with_reducible refine LeO.ite ?_ ?_)
      | (with_reducible refine LeO.bind ?_ (fun _ => ?_))
      | exact ih0 _ _ _
      | exact ih1 _ _ _
      | exact ih2 _ _ _
      | exact LeO.none _
      | refine LeO.ite ?_ ?_
      | refine LeO.bind ?_ (fun _ => ?_)
set_option maxHeartbeats 8000000 in
set_option maxRecDepth 100000 in
theorem spec_decimal.calls (k : Nat) (a0 : Bool) (P1_ : Nat → Prop) (A1 : Option Addr) (c1 : Nat) (l1 : List Int) (a2 : Int) (r1 : Bool) (r2 : List Int) (r3 : Int) (w : World) (hs1 : Kd.V (Kd.int .i64) 3 w w.heap.size (fun k_ => P1_ k_) (.slice A1 l1.length c1) l1) (h : spec_decimal.f k a0 l1 a2 = some (r1, r2, r3)) :
    Calls Try.prog 29 #[.bool a0, .slice A1 l1.length c1, .int .i64 a2] w fun e w' => ∃ v1_ : Value, e = .returned (.agg #[.bool r1, v1_, .int .i64 r3]) ∧ Kd.R (Kd.int .i64) 3 w' w.heap.size (fun k_ => (w.heap.size ≤ k_)) v1_ r2 ∧ Below w.heap.size w w' := by
  have hu32 := Try.underlying32
  have HO1 := Aside0.mk (show Kd.V (Kd.int .i64) 3 w w.heap.size (fun k_ => (P1_ k_ ∨ w.heap.size ≤ k_)) (.slice A1 l1.length c1) l1 from Kd.V_mono hs1 (fun k_ hk => .inl hk))
  have HB := Aside0.mk (Below.refl w.heap.size w)
  have H : (spec_decimal.l0 k a0 l1 a2) = some (r1, r2, r3) := h
  clear h
  have HC4 := Aside0.mk H
  clear H
  go_enter Try.func29, Try.ntmps29
  go_upto_block 0 with (first | ((with_reducible refine gate_dst (N := 6) rfl ?_); (try (refine gate_guard (by rfl) ?_; dsimp only)); refine box_event ?hg (N := 6) ?hd (cs := #[.bool false, .slice none 0 0, .int .i64 0]) (t := 32) ?hr ?_; (case hd => rfl); (case hg => rfl); (case hr => first | (go_simp; done) | (go_simp; rfl)); intro gb101 hg w5 hbox hb; have n0_ := Aside0.mk (Kd.V_below (Kd.V_elderB (by (with_reducible repeat (first | apply Kd.V_alloc | apply Kd.V_drewN | apply Kd.V_drew)); exact HO1.out) gb101 (Nat.le_of_eq hg.symm)) hb); have n1_ := Aside0.mk (below_step (by repeat (first | (with_reducible first | exact HB.out | apply below_alloc | apply pw_below_drewN | apply below_drew1) | exact HB.out)) hb); have n2_ := Aside0.mk (hbox); have n3_ := Aside0.mk ((by rw [hg]; exact (below_size (by repeat (first | (with_reducible first | exact HB.out | apply below_alloc | apply pw_below_drewN | apply below_drew1) | exact HB.out))) : w.heap.size ≤ gb101)); have n4_ := Aside0.mk ((by rw [hg]; exact (below_size (by repeat (first | (with_reducible first | exact HB.out | apply below_alloc | apply pw_below_drewN | apply below_drew1) | exact HB.out))) : w.heap.size ≤ gb101)); clear HO1; clear HB; have HO1 := n0_; have HB := n1_; have BK101 := n2_; have GW101 := n3_; have GE101 := n4_; clear n0_ n1_ n2_ n3_ n4_; clear hb hbox hg))
  (try simp only [Act.put, List.setIfInBounds_toArray, List.set_cons_zero, List.set_cons_succ])
  go_cut [1] (fun v1 wc => ∃ (kq : Nat) (x1_3 : List Int), Aside0 (spec_decimal.j1 kq a0 x1_3 a2 = some (r1, r2, r3)) ∧ Aside0 (kq ≤ k) ∧ Aside0 (Kd.V (Kd.int .i64) 3 wc w.heap.size (fun k_ => (P1_ k_ ∨ w.heap.size ≤ k_) ∧ k_ ≠ gb101) v1 x1_3) ∧ Aside0 (wc.heap[gb101]? = some (.cells #[.bool false, (.slice none 0 0), .int .i64 0] 32 (0, 0))) ∧ Aside0 (Below w.heap.size w wc))
  case first =>
    have H := HC4.out
    clear HC4
    have H' := Aside0.mk H
    clear H
    go_wp2
    go_loopg [1] k (fun kq v1 w' => ∃ (x1_1 : List Int), Aside0 (spec_decimal.l0 kq a0 x1_1 a2 = some (r1, r2, r3)) ∧ Aside0 (kq ≤ k) ∧ Aside0 (Kd.V (Kd.int .i64) 3 w' w.heap.size (fun k_ => (P1_ k_ ∨ w.heap.size ≤ k_) ∧ k_ ≠ gb101) v1 x1_1) ∧ Aside0 (w'.heap[gb101]? = some (.cells #[.bool false, (.slice none 0 0), .int .i64 0] 32 (0, 0))) ∧ Aside0 (Below w.heap.size w w'))
    case atStart => exact ⟨(l1), H', ⟨Nat.le_refl _⟩, ⟨by (with_reducible repeat (first | apply Kd.V_alloc | apply Kd.V_drewN | apply Kd.V_drew)); exact HO1.out⟩, ⟨by (with_reducible repeat (first | refine blk_drewN ?_ _ | refine blk_drew ?_ | refine blk_alloc ?_ _)); exact BK101.out⟩, ⟨by repeat (first | (with_reducible first | exact HB.out | apply below_alloc | apply pw_below_drewN | apply below_drew1 | refine below_set ?_ GE101.out) | exact HB.out)⟩⟩
    case round =>
      clear H'
      try clear c1
      try clear c2
      try clear p2
      obtain ⟨x1_1, HA, HK1, HO_1, BK101, HB⟩ := hrel
      cases gk with
      | zero => exact absurd HA.out (by simp [spec_decimal.l0])
      | succ k1 =>
        have H := HA.out
        clear HA
        simp only [spec_decimal.l0] at H
        by_cases c6 : (x1_1.length : Int) > 0
        · rw [if_pos c6] at H
          have c6b0 : decide (0 < (x1_1.length : Int)) = true := decide_eq_true c6
          have c6b1 : decide (0 < x1_1.length) = true := decide_eq_true (by omega)
          clear c6
          (first | rw [c6b0] | (simp only [i64_w, i32_w]; rw [c6b0]) | skip)
          by_cases c7 : 0 < (x1_1.length : Int)
          · rw [if_pos c7] at H
            have c7b0 : decide (0 < (x1_1.length : Int)) = true := decide_eq_true c7
            have c7b1 : decide (0 < x1_1.length) = true := decide_eq_true (by omega)
            clear c7
            by_cases c8 : (rd x1_1 0) = 0
            · rw [if_pos c8] at H
              have c8b0 : ((rd x1_1 0) == 0) = true := beq_iff_eq.mpr c8
              have c8b1 : ((rd x1_1 0) != 0) = false := bne_eq_false_iff_eq.mpr c8
              clear c8
              by_cases c9 : 1 ≤ (x1_1.length : Int)
              · rw [if_pos c9] at H
                have c9b0 := eq_true c9
                have c9b1 : decide (1 ≤ (x1_1.length : Int)) = true := decide_eq_true c9
                clear c9
                obtain ⟨y103, hy103⟩ : ∃ y_ : List Int, y_ = (x1_1.drop 1) := ⟨_, rfl⟩
                replace H : (spec_decimal.l0 k1 a0 y103 a2) = some (r1, r2, r3) := by first | (rw [hy103]; with_reducible exact H) | (have H2_ := (Option.bind_some _ _).symm.trans H; rw [hy103]; with_reducible exact H2_) | (have H2_ := (Option.bind_some _ _).symm.trans H; with_reducible exact H2_) | with_reducible exact H | (rw [hy103]; exact H) | exact H
                have Ny103 := Aside0.mk hy103
                clear hy103
                have H' := Aside0.mk H
                clear H
                obtain ⟨Ao10, co10, eo10⟩ := Kd.V_slice HO_1.out
                subst eo10
                have p102 : 0 ≤ (0 : Int) := (by omega)
                have q102 : 0 < (x1_1.length : Int) := of_decide_eq_true (by first | (with_reducible assumption) | assumption)
                obtain ⟨ad102, e102, hx102_0⟩ := Kd.at_int (Kd.V_reads' HO_1.out).2.2 0 p102 q102
                cases e102
                have qi102 : (0 < x1_1.length) = True := eq_true (by omega)
                (try rw [show ((0 : Int)).toNat = 0 from rfl] at hx102_0)
                (try rw [Addr.add_zero'] at hx102_0)
                replace p102 := eq_true p102
                replace q102 := eq_true q102
                have q11 : (1 : Int) ≤ ((x1_1.length : Int) : Int) := of_decide_eq_true (by first | (with_reducible assumption) | assumption)
                obtain ⟨i011, hi011, _, hsz11, _⟩ := info_parts info3
                have hroom11 : x1_1.length ≤ co10 := (Kd.V_reads' HO_1.out).2.1
                have hC11 : Kd.F (Kd.int .i64) _ _ (some ad102) x1_1.length x1_1 := (Kd.V_at (base := w.heap.size) HO_1.out).2.2
                have hcut11 := cut_from (P := Try.prog) 30 3 .i64 Try.underlying30 hi011 1 hsz11 (some ad102) x1_1.length co10 1 (by omega) q11
                have hr11 := Kd.F_cut (m := (1 : Int).toNat) (c := co10) hC11 (by omega) hroom11
                obtain ⟨A11, hA11⟩ : ∃ A1, A1 = (if co10 = (1 : Int).toNat then (some ad102) else ((some ad102) : Option Addr).map (·.add ((1 : Int).toNat * 1))) := ⟨_, rfl⟩
                obtain ⟨c11, hc11⟩ : ∃ c1, c1 = co10 - (1 : Int).toNat := ⟨_, rfl⟩
                have hy11 : y103.length = x1_1.length - (1 : Int).toNat := (by rw [Ny103.out, List.length_drop] <;> omega)
                rw [show (x1_1).drop (1 : Int).toNat = y103 from Ny103.out.symm] at hr11
                replace hr11 : Kd.F (Kd.int .i64) _ _ A11 y103.length y103 := (by rw [hA11]; exact hr11)
                rw [← hy11, ← hA11, ← hc11] at hcut11
                have HO107 := Aside0.mk (show Kd.V (Kd.int .i64) 3 _ w.heap.size _ (.slice A11 y103.length c11) y103 from Kd.V_mk (by rw [hy11, hc11]; exact Nat.sub_le_sub_right hroom11 _) hr11)
                have HC107 := Aside0.mk (show y103.length ≤ c11 from by rw [hy11, hc11]; exact Nat.sub_le_sub_right hroom11 _)
                clear hr11 hC11 hroom11 hi011 hsz11 hc11
                have KY11 := Aside0.mk hy11
                have KA11 := Aside0.mk hA11
                clear hy11 hA11
                replace q11 := eq_true q11
                go_wp2
                go_roundg k1
                case measure => have := HK1.out; omega
                case rel => exact ⟨(y103), H', ⟨by have := HK1.out; omega⟩, ⟨by (with_reducible repeat (first | apply Kd.V_alloc | apply Kd.V_drewN | apply Kd.V_drew)); exact HO107.out⟩, ⟨by (with_reducible repeat (first | refine blk_drewN ?_ _ | refine blk_drew ?_ | refine blk_alloc ?_ _)); exact BK101.out⟩, ⟨by repeat (first | (with_reducible first | exact HB.out | apply below_alloc | apply pw_below_drewN | apply below_drew1 | refine below_set ?_ GE101.out) | exact HB.out)⟩⟩
              · rw [if_neg c9] at H
                exact absurd H (by simp)
            · rw [if_neg c8] at H
              have c8b0 : ((rd x1_1 0) == 0) = false := beq_eq_false_iff_ne.mpr c8
              have c8b1 : ((rd x1_1 0) != 0) = true := bne_iff_ne.mpr c8
              have H' := Aside0.mk H
              clear H
              obtain ⟨Ao12, co12, eo12⟩ := Kd.V_slice HO_1.out
              subst eo12
              have p102 : 0 ≤ (0 : Int) := (by omega)
              have q102 : 0 < (x1_1.length : Int) := of_decide_eq_true (by first | (with_reducible assumption) | assumption)
              obtain ⟨ad102, e102, hx102_0⟩ := Kd.at_int (Kd.V_reads' HO_1.out).2.2 0 p102 q102
              cases e102
              have qi102 : (0 < x1_1.length) = True := eq_true (by omega)
              (try rw [show ((0 : Int)).toNat = 0 from rfl] at hx102_0)
              (try rw [Addr.add_zero'] at hx102_0)
              replace p102 := eq_true p102
              replace q102 := eq_true q102
              go_wp2
              go_meet
              case rel => exact ⟨_, (x1_1), H', ⟨by have := HK1.out; first | omega | exact Nat.le_refl _⟩, ⟨by (with_reducible repeat (first | apply Kd.V_alloc | apply Kd.V_drewN | apply Kd.V_drew)); exact HO_1.out⟩, ⟨by (with_reducible repeat (first | refine blk_drewN ?_ _ | refine blk_drew ?_ | refine blk_alloc ?_ _)); exact BK101.out⟩, ⟨by repeat (first | (with_reducible first | exact HB.out | apply below_alloc | apply pw_below_drewN | apply below_drew1 | refine below_set ?_ GE101.out) | exact HB.out)⟩⟩
          · rw [if_neg c7] at H
            exact absurd H (by simp)
        · rw [if_neg c6] at H
          have c6b0 : decide (0 < (x1_1.length : Int)) = false := decide_eq_false c6
          have c6b1 : decide (0 < x1_1.length) = false := decide_eq_false (by omega)
          clear c6
          (first | rw [c6b0] | (simp only [i64_w, i32_w]; rw [c6b0]) | skip)
          have H' := Aside0.mk H
          clear H
          obtain ⟨Ao13, co13, eo13⟩ := Kd.V_slice HO_1.out
          subst eo13
          go_wp2
          go_meet
          case rel => exact ⟨_, (x1_1), H', ⟨by have := HK1.out; first | omega | exact Nat.le_refl _⟩, ⟨by (with_reducible repeat (first | apply Kd.V_alloc | apply Kd.V_drewN | apply Kd.V_drew)); exact HO_1.out⟩, ⟨by (with_reducible repeat (first | refine blk_drewN ?_ _ | refine blk_drew ?_ | refine blk_alloc ?_ _)); exact BK101.out⟩, ⟨by repeat (first | (with_reducible first | exact HB.out | apply below_alloc | apply pw_below_drewN | apply below_drew1 | refine below_set ?_ GE101.out) | exact HB.out)⟩⟩
  case rest =>
    clear HC4
    try clear c1
    try clear p1
    try clear q1
    try clear hx1
    try clear qi1
    try clear c2
    try clear p2
    try clear c6
    try clear c6b0
    try clear c6b1
    try clear c7
    try clear c7b0
    try clear c7b1
    try clear c8
    try clear c8b0
    try clear c8b1
    try clear c9
    try clear c9b0
    try clear c9b1
    try clear p10
    try clear q10
    try clear hx10
    try clear qi10
    try clear c11
    try clear q11
    try clear hx102_0
    try clear p102
    try clear p2
    try clear q102
    try clear q11
    obtain ⟨kq, x1_3, HA, HJ3, HO_1, BK101, HB⟩ := hcut
    cases kq with
    | zero => exact absurd HA.out (by simp [spec_decimal.j1])
    | succ kj3 =>
      have H := HA.out
      clear HA
      simp only [spec_decimal.j1] at H
      have H' := Aside0.mk H
      clear H
      go_wp2
      go_loopg [1, 2] kj3 (fun kq v1 v2 w' => ∃ (x1_2 : List Int) (x2_2 : Int), v2 = .int .i64 x2_2 ∧ Aside0 (spec_decimal.l1 kq a0 x1_2 x2_2 = some (r1, r2, r3)) ∧ Aside0 (kq ≤ kj3) ∧ Aside0 (Kd.V (Kd.int .i64) 3 w' w.heap.size (fun k_ => (P1_ k_ ∨ w.heap.size ≤ k_) ∧ k_ ≠ gb101) v1 x1_2) ∧ Aside0 (w'.heap[gb101]? = some (.cells #[.bool false, (.slice none 0 0), .int .i64 0] 32 (0, 0))) ∧ Aside0 (Below w.heap.size w w'))
      case atStart => exact ⟨(x1_3), (a2), (by first | rfl | (simp; done) | (simp [*]; done)), H', ⟨Nat.le_refl _⟩, ⟨by (with_reducible repeat (first | apply Kd.V_alloc | apply Kd.V_drewN | apply Kd.V_drew)); exact HO_1.out⟩, ⟨by (with_reducible repeat (first | refine blk_drewN ?_ _ | refine blk_drew ?_ | refine blk_alloc ?_ _)); exact BK101.out⟩, ⟨by repeat (first | (with_reducible first | exact HB.out | apply below_alloc | apply pw_below_drewN | apply below_drew1 | refine below_set ?_ GE101.out) | exact HB.out)⟩⟩
      case round =>
        clear H'
        try clear c1
        try clear p1
        try clear q1
        try clear hx1
        try clear qi1
        try clear c2
        try clear p2
        try clear c6
        try clear c6b0
        try clear c6b1
        try clear c7
        try clear c7b0
        try clear c7b1
        try clear c8
        try clear c8b0
        try clear c8b1
        try clear c9
        try clear c9b0
        try clear c9b1
        try clear p10
        try clear q10
        try clear hx10
        try clear qi10
        try clear c11
        try clear q11
        try clear hx102_0
        try clear p1
        try clear p10
        try clear p102
        try clear p2
        try clear q1
        try clear q10
        try clear q102
        try clear q11
        obtain ⟨x1_2, x2_2, rfl, HA, HK2, HO_1, BK101, HB⟩ := hrel
        cases gk with
        | zero => exact absurd HA.out (by simp [spec_decimal.l1])
        | succ k2 =>
          have H := HA.out
          clear HA
          simp only [spec_decimal.l1] at H
          by_cases c14 : (x1_2.length : Int) > 0
          · rw [if_pos c14] at H
            have c14b0 : decide (0 < (x1_2.length : Int)) = true := decide_eq_true c14
            have c14b1 : decide (0 < x1_2.length) = true := decide_eq_true (by omega)
            clear c14
            obtain ⟨ji15, hji15⟩ : ∃ j_ : Int, (wrap64 ((x1_2.length : Int) - 1)) = j_ := ⟨_, rfl⟩
            replace H : (if 0 ≤ (ji15) then (if (ji15) < (x1_2.length : Int) then (if (rd x1_2 (ji15)) = 0 then (if (ji15) ≤ (x1_2.length : Int) then (spec_decimal.l1 k2 a0 (x1_2.take ((ji15) : Int).toNat) (wrap64 (x2_2 + 1))) else (none)) else (if (x1_2.length : Int) = 0 then (some (false, ([] : List Int), 0)) else ((some (([] : List Int) : List Int)).bind fun y114 => (if y114.length + x1_2.length < 17592186044416 then (some (a0, (y114 ++ x1_2), x2_2)) else (none))))) else (none)) else (none)) = some (r1, r2, r3) := by first | (rw [hji15] at H; exact H) | (simp only [hji15] at H ⊢; exact H)
            have hji15w : (IntKind.i64.wrap ((x1_2.length : Int) - 1)) = ji15 := (i64_w _).trans hji15
            by_cases c16 : 0 ≤ (ji15)
            · rw [if_pos c16] at H
              have c16b0 : decide (0 ≤ (ji15)) = true := decide_eq_true c16
              clear c16
              by_cases c17 : (ji15) < (x1_2.length : Int)
              · rw [if_pos c17] at H
                have c17b0 : decide ((ji15) < (x1_2.length : Int)) = true := decide_eq_true c17
                clear c17
                by_cases c18 : (rd x1_2 (ji15)) = 0
                · rw [if_pos c18] at H
                  have c18b0 : ((rd x1_2 (ji15)) == 0) = true := beq_iff_eq.mpr c18
                  have c18b1 : ((rd x1_2 (ji15)) != 0) = false := bne_eq_false_iff_eq.mpr c18
                  clear c18
                  have c19b0 := eq_true (of_decide_eq_true (by first | (with_reducible assumption) | assumption) : 0 ≤ (ji15))
                  by_cases c20 : (ji15) ≤ (x1_2.length : Int)
                  · rw [if_pos c20] at H
                    have c20b0 := eq_true c20
                    have c20b1 : decide ((ji15) ≤ (x1_2.length : Int)) = true := decide_eq_true c20
                    clear c20
                    obtain ⟨y109, hy109⟩ : ∃ y_ : List Int, y_ = (x1_2.take ((ji15) : Int).toNat) := ⟨_, rfl⟩
                    replace H : (spec_decimal.l1 k2 a0 y109 (wrap64 (x2_2 + 1))) = some (r1, r2, r3) := by first | (rw [hy109]; with_reducible exact H) | (have H2_ := (Option.bind_some _ _).symm.trans H; rw [hy109]; with_reducible exact H2_) | (have H2_ := (Option.bind_some _ _).symm.trans H; with_reducible exact H2_) | with_reducible exact H | (rw [hy109]; exact H) | exact H
                    have Ny109 := Aside0.mk hy109
                    clear hy109
                    have H' := Aside0.mk H
                    clear H
                    obtain ⟨Ao21, co21, eo21⟩ := Kd.V_slice HO_1.out
                    subst eo21
                    have p108 : 0 ≤ ((ji15) : Int) := of_decide_eq_true (by first | (with_reducible assumption) | assumption)
                    have q108 : (ji15) < (x1_2.length : Int) := of_decide_eq_true (by first | (with_reducible assumption) | assumption)
                    obtain ⟨ad108, e108, hx108_0⟩ := Kd.at_int (Kd.V_reads' HO_1.out).2.2 (ji15) p108 q108
                    cases e108
                    replace p108 := eq_true p108
                    replace q108 := eq_true q108
                    have q22 : ((ji15) : Int) ≤ ((x1_2.length : Int) : Int) := of_decide_eq_true (by first | (with_reducible assumption) | assumption)
                    obtain ⟨i022, hi022, _, hsz22, _⟩ := info_parts info3
                    have hroom22 : x1_2.length ≤ co21 := (Kd.V_reads' HO_1.out).2.1
                    have hC22 : Kd.F (Kd.int .i64) _ _ (some ad108) x1_2.length x1_2 := (Kd.V_at (base := w.heap.size) HO_1.out).2.2
                    have hcut22 := cut_to (P := Try.prog) 30 3 .i64 Try.underlying30 hi022 (some ad108) x1_2.length co21 (ji15) (of_decide_eq_true (by first | (with_reducible assumption) | assumption)) q22 hroom22
                    have hr22 := Kd.F_take (m := ((ji15) : Int).toNat) hC22 (by omega)
                    have hy22 : y109.length = ((ji15) : Int).toNat := (by rw [Ny109.out, List.length_take]; omega)
                    rw [← Ny109.out] at hr22
                    rw [← hy22] at hcut22
                    have HO113 := Aside0.mk (show Kd.V (Kd.int .i64) 3 _ w.heap.size _ (.slice (some ad108) y109.length co21) y109 from Kd.V_mk (by omega) hr22)
                    have HC113 := Aside0.mk (show y109.length ≤ co21 from by omega)
                    clear hr22 hC22 hroom22 hi022 hsz22
                    have KY22 := Aside0.mk hy22
                    clear hy22
                    replace q22 := eq_true q22
                    go_wp2
                    go_roundg k2
                    case measure => have := HJ3.out; have := HK2.out; omega
                    case rel => exact ⟨(y109), (wrap64 (x2_2 + 1)), (by first | rfl | (simp; done) | (simp [*]; done)), H', ⟨by have := HJ3.out; have := HK2.out; omega⟩, ⟨by (with_reducible repeat (first | apply Kd.V_alloc | apply Kd.V_drewN | apply Kd.V_drew)); exact HO113.out⟩, ⟨by (with_reducible repeat (first | refine blk_drewN ?_ _ | refine blk_drew ?_ | refine blk_alloc ?_ _)); exact BK101.out⟩, ⟨by repeat (first | (with_reducible first | exact HB.out | apply below_alloc | apply pw_below_drewN | apply below_drew1 | refine below_set ?_ GE101.out) | exact HB.out)⟩⟩
                  · rw [if_neg c20] at H
                    exact absurd H (by simp)
                · rw [if_neg c18] at H
                  have c18b0 : ((rd x1_2 (ji15)) == 0) = false := beq_eq_false_iff_ne.mpr c18
                  have c18b1 : ((rd x1_2 (ji15)) != 0) = true := bne_iff_ne.mpr c18
                  by_cases c23 : (x1_2.length : Int) = 0
                  · rw [if_pos c23] at H
                    have c23b0 : ((x1_2.length : Int) == 0) = true := beq_iff_eq.mpr c23
                    have c23b1 : ((x1_2.length : Int) != 0) = false := bne_eq_false_iff_eq.mpr c23
                    clear c23
                    simp only [Option.some.injEq, Prod.mk.injEq] at H
                    obtain ⟨rfl, rfl, rfl⟩ := H
                    obtain ⟨Ao24, co24, eo24⟩ := Kd.V_slice HO_1.out
                    subst eo24
                    have p108 : 0 ≤ ((ji15) : Int) := of_decide_eq_true (by first | (with_reducible assumption) | assumption)
                    have q108 : (ji15) < (x1_2.length : Int) := of_decide_eq_true (by first | (with_reducible assumption) | assumption)
                    obtain ⟨ad108, e108, hx108_0⟩ := Kd.at_int (Kd.V_reads' HO_1.out).2.2 (ji15) p108 q108
                    cases e108
                    replace p108 := eq_true p108
                    replace q108 := eq_true q108
                    have hcz25_0 : wr.cell? ⟨gb101, 0, none⟩ = some (.bool false) := (blk_cell BK101.out 0).trans rfl
                    have hcz25_1 : wr.cell? ⟨gb101, 1, none⟩ = some (.slice none 0 0) := (blk_cell BK101.out 1).trans rfl
                    have hcz25_2 : wr.cell? ⟨gb101, 2, none⟩ = some (.int .i64 0) := (blk_cell BK101.out 2).trans rfl
                    have hfz25_0 := blk_frozen BK101.out 0
                    have hfz25_1 := blk_frozen BK101.out 1
                    have hfz25_2 := blk_frozen BK101.out 2
                    go_wp2
                    refine bodyPost_ret (results_cell_row rfl _ _ gb101 32 #[.bool false, .slice none 0 0, .int .i64 0] (0, 0) _ rfl (by (with_reducible repeat (first | refine blk_drewN ?_ _ | refine blk_drew ?_ | refine blk_alloc ?_ _)); refine blk_put (cs := #[.bool false, .slice none 0 0, .int .i64 0]) ?_ 2 _ rfl; (with_reducible repeat (first | refine blk_drewN ?_ _ | refine blk_drew ?_ | refine blk_alloc ?_ _)); refine blk_put (cs := #[.bool false, .slice none 0 0, .int .i64 0]) ?_ 1 _ rfl; (with_reducible repeat (first | refine blk_drewN ?_ _ | refine blk_drew ?_ | refine blk_alloc ?_ _)); refine blk_put (cs := #[.bool false, .slice none 0 0, .int .i64 0]) ?_ 0 _ rfl; (with_reducible repeat (first | refine blk_drewN ?_ _ | refine blk_drew ?_ | refine blk_alloc ?_ _)); exact BK101.out) Try.underlying32 rfl (by kernel_rfl)) rfl ?_
                    exact ⟨_, by first | rfl | (simp [errW_none, errW_some] <;> rfl) | (simp only [← hji15]; first | rfl | (simp [errW_none, errW_some] <;> rfl)) | (simp [*, errW_none, errW_some] <;> rfl), by first | exact Kd.R_nil _ _ _ _ _ | exact Kd.N_nil _ _ _ _ _ | exact Kd.V_nil _ _ _ _ _ | exact Kd.Q_nil _ _ _ _ _ | exact Kd.S_nil _ _ _ _ _, by repeat (first | (with_reducible first | exact HB.out | apply below_alloc | apply pw_below_drewN | apply below_drew1 | refine below_set ?_ GE101.out) | exact HB.out)⟩
                  · rw [if_neg c23] at H
                    have c23b0 : ((x1_2.length : Int) == 0) = false := beq_eq_false_iff_ne.mpr c23
                    have c23b1 : ((x1_2.length : Int) != 0) = true := bne_iff_ne.mpr c23
                    have c23b2 : ¬ (x1_2 = []) := fun h_ => c23 (by rw [h_]; rfl)
                    obtain ⟨y114, hy114⟩ : ∃ y_ : List Int, y_ = (([] : List Int)) := ⟨_, rfl⟩
                    replace H : (if y114.length + x1_2.length < 17592186044416 then (some (a0, (y114 ++ x1_2), x2_2)) else (none)) = some (r1, r2, r3) := by first | (rw [hy114]; with_reducible exact H) | (have H2_ := (Option.bind_some _ _).symm.trans H; rw [hy114]; with_reducible exact H2_) | (have H2_ := (Option.bind_some _ _).symm.trans H; with_reducible exact H2_) | with_reducible exact H | (rw [hy114]; exact H) | exact H
                    have Ny114 := Aside0.mk hy114
                    clear hy114
                    by_cases c26 : y114.length + x1_2.length < 17592186044416
                    · rw [if_pos c26] at H
                      have LMc26 := Aside0.mk c26
                      clear c26
                      obtain ⟨y117, hy117⟩ : ∃ y_ : List Int, y_ = (y114 ++ x1_2) := ⟨_, rfl⟩
                      replace H : (some (a0, y117, x2_2)) = some (r1, r2, r3) := by first | (rw [hy117]; with_reducible exact H) | (have H2_ := (Option.bind_some _ _).symm.trans H; rw [hy117]; with_reducible exact H2_) | (have H2_ := (Option.bind_some _ _).symm.trans H; with_reducible exact H2_) | with_reducible exact H | (rw [hy117]; exact H) | exact H
                      have Ny117 := Aside0.mk hy117
                      clear hy117
                      simp only [Option.some.injEq, Prod.mk.injEq] at H
                      obtain ⟨rfl, rfl, rfl⟩ := H
                      obtain ⟨Ao27, co27, eo27⟩ := Kd.V_slice HO_1.out
                      subst eo27
                      have p108 : 0 ≤ ((ji15) : Int) := of_decide_eq_true (by first | (with_reducible assumption) | assumption)
                      have q108 : (ji15) < (x1_2.length : Int) := of_decide_eq_true (by first | (with_reducible assumption) | assumption)
                      obtain ⟨ad108, e108, hx108_0⟩ := Kd.at_int (Kd.V_reads' HO_1.out).2.2 (ji15) p108 q108
                      cases e108
                      replace p108 := eq_true p108
                      replace q108 := eq_true q108
                      go_wp2_with (first | ((with_reducible refine gate_dst (N := 42) rfl ?_); (try (refine gate_guard (by rfl) ?_; dsimp only)); refine Kd.R_lit (Kd.int .i64) _ 3 ?hg (N := 42) ?hd (xs := ([] : List Int)) (inner := []) (ok := fun _ => True) (okp := fun _ => True) ?hr ?hp (fun _ hk => hk) trivial (Below.refl _ _) (Nat.le_refl _) (by simp) ?_; (case hd => rfl); (case hg => rfl); (case hr => first | (go_simp; done) | (go_simp; rfl)); (case hp => exact (Reps.none _ _)); intro v115 w28 ho29 hb hg_ hnew_; clear hg_ hnew_; (first | rw [← Ny114.out] at ho29 | (simp only [Int.reduceToNat] at ho29; rw [← Ny114.out] at ho29)); have n0_ := Aside0.mk (Kd.V_elder' (by (with_reducible repeat (first | apply Kd.V_alloc | apply Kd.V_drewN | apply Kd.V_drew)); exact HO_1.out) (Kd.R_base ho29) hb); have n1_ := Aside0.mk (Kd.R_lower (Kd.R_newM (M := fun k_ => (w.heap.size ≤ k_)) ho29 (below_size (by repeat (first | (with_reducible first | exact HB.out | apply below_alloc | apply pw_below_drewN | apply below_drew1 | refine below_set ?_ GE101.out) | exact HB.out))) (fun k_ h_ => h_)) (below_size (by repeat (first | (with_reducible first | exact HB.out | apply below_alloc | apply pw_below_drewN | apply below_drew1 | refine below_set ?_ GE101.out) | exact HB.out)))); have n2_ := Aside0.mk (blk_below (g := gb101) (o := .cells #[.bool false, .slice none 0 0, .int .i64 0] 32 (0, 0)) (by (with_reducible repeat (first | refine blk_drewN ?_ _ | refine blk_drew ?_ | refine blk_alloc ?_ _)); exact BK101.out) hb); have n3_ := Aside0.mk (below_step (by repeat (first | (with_reducible first | exact HB.out | apply below_alloc | apply pw_below_drewN | apply below_drew1 | refine below_set ?_ GE101.out) | exact HB.out)) hb); clear HO_1; clear BK101; clear HB; have HO_1 := n0_; have HO116 := n1_; have BK101 := n2_; have HB := n3_; clear n0_ n1_ n2_ n3_; clear hb ho29) | ((with_reducible refine gate_builtin (b := .append) (xs := #[.tmp 42, .tmp 43]) rfl ?_); (try (refine gate_guard (by rfl) ?_; dsimp only)); at_builtin; refine Kd.R_append_rows (Kd.int .i64) (w0 := w) w.heap.size rfl (.tmp 42) (.tmp 43) 30 3 (.int .i64 0) 8 rfl Try.underlying30 info3 rfl (by decide) (by omega) v115 y114 x1_2 _ _ _ (fun k_ => (w.heap.size ≤ k_)) (fun _ => False) rfl rfl ?aO ?aR (fun _ _ h => h) (fun _ h => h.elim) ?aF ?aB ?aS ?aL ?_; (case aR => repeat (first | exact (Kd.V_reads' HO_1.out).2.2 | (with_reducible refine Kd.C_alloc ?_ _) | (with_reducible refine Kd.C_drewN ?_ _) | (with_reducible refine Kd.C_drew ?_))); (case aB => exact (by repeat (first | (with_reducible first | exact HB.out | apply below_alloc | apply pw_below_drewN | apply below_drew1 | refine below_set ?_ GE101.out) | exact HB.out))); (case aF => exact (fun k_ hk => (Nat.le_trans (below_size (by repeat (first | (with_reducible first | exact HB.out | apply below_alloc | apply pw_below_drewN | apply below_drew1 | refine below_set ?_ GE101.out) | exact HB.out))) hk))); (case aO => exact (by (with_reducible repeat (first | apply Kd.R_alloc | apply Kd.R_drewN | apply Kd.R_drew)); exact Kd.R_mono HO116.out (fun _ hk => hk.1))); (case aS => exact (below_size (by repeat (first | (with_reducible first | exact HB.out | apply below_alloc | apply pw_below_drewN | apply below_drew1 | refine below_set ?_ GE101.out) | exact HB.out)))); (case aL => have := LMc26.out; omega); intro v118 w30 ho hb hg hat; rw [← Ny117.out] at ho; have n0_ := Aside0.mk (Kd.V_afterv (ok := (fun k_ => (P1_ k_ ∨ w.heap.size ≤ k_) ∧ k_ ≠ gb101)) (by (with_reducible repeat (first | apply Kd.V_alloc | apply Kd.V_drewN | apply Kd.V_drew)); exact HO_1.out) hg hat); have n1_ := Aside0.mk (blk_grown (g := gb101) (o := .cells #[.bool false, .slice none 0 0, .int .i64 0] 32 (0, 0)) (by (with_reducible repeat (first | refine blk_drewN ?_ _ | refine blk_drew ?_ | refine blk_alloc ?_ _)); exact BK101.out) hg (Kd.R_ne HO116.out BK101.out (by decide))); have n2_ := Aside0.mk (hb); have n3_ := Aside0.mk (ho); clear HO_1; clear BK101; clear HB; clear HO116; have HO_1 := n0_; have BK101 := n1_; have HB := n2_; have HO119 := n3_; clear n0_ n1_ n2_ n3_; clear ho hb hg hat; obtain ⟨Ao31, co31, eo31⟩ := Kd.R_slice HO119.out; subst eo31; have hcz32_0 : w30.cell? ⟨gb101, 0, none⟩ = some (.bool false) := (blk_cell BK101.out 0).trans rfl; have hcz32_1 : w30.cell? ⟨gb101, 1, none⟩ = some (.slice none 0 0) := (blk_cell BK101.out 1).trans rfl; have hcz32_2 : w30.cell? ⟨gb101, 2, none⟩ = some (.int .i64 0) := (blk_cell BK101.out 2).trans rfl; have hfz32_0 := blk_frozen BK101.out 0; have hfz32_1 := blk_frozen BK101.out 1; have hfz32_2 := blk_frozen BK101.out 2))
                      refine bodyPost_ret (results_cell_row rfl _ _ gb101 32 #[.bool a0, .slice Ao31 y117.length co31, .int .i64 x2_2] (0, 0) _ rfl (by (with_reducible repeat (first | refine blk_drewN ?_ _ | refine blk_drew ?_ | refine blk_alloc ?_ _)); refine blk_put (cs := #[.bool a0, .slice Ao31 y117.length co31, .int .i64 0]) ?_ 2 _ rfl; (with_reducible repeat (first | refine blk_drewN ?_ _ | refine blk_drew ?_ | refine blk_alloc ?_ _)); refine blk_put (cs := #[.bool a0, .slice none 0 0, .int .i64 0]) ?_ 1 _ rfl; (with_reducible repeat (first | refine blk_drewN ?_ _ | refine blk_drew ?_ | refine blk_alloc ?_ _)); refine blk_put (cs := #[.bool false, .slice none 0 0, .int .i64 0]) ?_ 0 _ rfl; (with_reducible repeat (first | refine blk_drewN ?_ _ | refine blk_drew ?_ | refine blk_alloc ?_ _)); exact BK101.out) Try.underlying32 rfl (by kernel_rfl)) rfl ?_
                      exact ⟨_, by first | rfl | (simp [errW_none, errW_some] <;> rfl) | (simp only [← hji15]; first | rfl | (simp [errW_none, errW_some] <;> rfl)) | (simp [*, errW_none, errW_some] <;> rfl), by (with_reducible repeat (first | apply Kd.R_alloc | apply Kd.R_drewN | apply Kd.R_drew)); exact Kd.R_mono (Kd.R_far (p := ⟨gb101, 2, none⟩) (Kd.R_far (p := ⟨gb101, 1, none⟩) (Kd.R_far (p := ⟨gb101, 0, none⟩) (Kd.R_types HO119.out BK101.out (by decide)) (fun _ hk => hk.2) (.bool a0)) (fun _ hk => hk.2) (.slice Ao31 y117.length co31)) (fun _ hk => hk.2) (.int .i64 x2_2)) (fun _ hk => hk.1), by repeat (first | (with_reducible first | exact HB.out | apply below_alloc | apply pw_below_drewN | apply below_drew1 | refine below_set ?_ GE101.out) | exact HB.out)⟩
                    · rw [if_neg c26] at H
                      exact absurd H (by simp)
              · rw [if_neg c17] at H
                exact absurd H (by simp)
            · rw [if_neg c16] at H
              exact absurd H (by simp)
          · rw [if_neg c14] at H
            have c14b0 : decide (0 < (x1_2.length : Int)) = false := decide_eq_false c14
            have c14b1 : decide (0 < x1_2.length) = false := decide_eq_false (by omega)
            clear c14
            by_cases c33 : (x1_2.length : Int) = 0
            · rw [if_pos c33] at H
              have c33b0 : ((x1_2.length : Int) == 0) = true := beq_iff_eq.mpr c33
              have c33b1 : ((x1_2.length : Int) != 0) = false := bne_eq_false_iff_eq.mpr c33
              clear c33
              simp only [Option.some.injEq, Prod.mk.injEq] at H
              obtain ⟨rfl, rfl, rfl⟩ := H
              obtain ⟨Ao34, co34, eo34⟩ := Kd.V_slice HO_1.out
              subst eo34
              have hcz35_0 : wr.cell? ⟨gb101, 0, none⟩ = some (.bool false) := (blk_cell BK101.out 0).trans rfl
              have hcz35_1 : wr.cell? ⟨gb101, 1, none⟩ = some (.slice none 0 0) := (blk_cell BK101.out 1).trans rfl
              have hcz35_2 : wr.cell? ⟨gb101, 2, none⟩ = some (.int .i64 0) := (blk_cell BK101.out 2).trans rfl
              have hfz35_0 := blk_frozen BK101.out 0
              have hfz35_1 := blk_frozen BK101.out 1
              have hfz35_2 := blk_frozen BK101.out 2
              go_wp2
              refine bodyPost_ret (results_cell_row rfl _ _ gb101 32 #[.bool false, .slice none 0 0, .int .i64 0] (0, 0) _ rfl (by (with_reducible repeat (first | refine blk_drewN ?_ _ | refine blk_drew ?_ | refine blk_alloc ?_ _)); refine blk_put (cs := #[.bool false, .slice none 0 0, .int .i64 0]) ?_ 2 _ rfl; (with_reducible repeat (first | refine blk_drewN ?_ _ | refine blk_drew ?_ | refine blk_alloc ?_ _)); refine blk_put (cs := #[.bool false, .slice none 0 0, .int .i64 0]) ?_ 1 _ rfl; (with_reducible repeat (first | refine blk_drewN ?_ _ | refine blk_drew ?_ | refine blk_alloc ?_ _)); refine blk_put (cs := #[.bool false, .slice none 0 0, .int .i64 0]) ?_ 0 _ rfl; (with_reducible repeat (first | refine blk_drewN ?_ _ | refine blk_drew ?_ | refine blk_alloc ?_ _)); exact BK101.out) Try.underlying32 rfl (by kernel_rfl)) rfl ?_
              exact ⟨_, by first | rfl | (simp [errW_none, errW_some] <;> rfl) | (simp [*, errW_none, errW_some] <;> rfl), by first | exact Kd.R_nil _ _ _ _ _ | exact Kd.N_nil _ _ _ _ _ | exact Kd.V_nil _ _ _ _ _ | exact Kd.Q_nil _ _ _ _ _ | exact Kd.S_nil _ _ _ _ _, by repeat (first | (with_reducible first | exact HB.out | apply below_alloc | apply pw_below_drewN | apply below_drew1 | refine below_set ?_ GE101.out) | exact HB.out)⟩
            · rw [if_neg c33] at H
              have c33b0 : ((x1_2.length : Int) == 0) = false := beq_eq_false_iff_ne.mpr c33
              have c33b1 : ((x1_2.length : Int) != 0) = true := bne_iff_ne.mpr c33
              have c33b2 : ¬ (x1_2 = []) := fun h_ => c33 (by rw [h_]; rfl)
              obtain ⟨y120, hy120⟩ : ∃ y_ : List Int, y_ = (([] : List Int)) := ⟨_, rfl⟩
              replace H : (if y120.length + x1_2.length < 17592186044416 then (some (a0, (y120 ++ x1_2), x2_2)) else (none)) = some (r1, r2, r3) := by first | (rw [hy120]; with_reducible exact H) | (have H2_ := (Option.bind_some _ _).symm.trans H; rw [hy120]; with_reducible exact H2_) | (have H2_ := (Option.bind_some _ _).symm.trans H; with_reducible exact H2_) | with_reducible exact H | (rw [hy120]; exact H) | exact H
              have Ny120 := Aside0.mk hy120
              clear hy120
              by_cases c36 : y120.length + x1_2.length < 17592186044416
              · rw [if_pos c36] at H
                have LMc36 := Aside0.mk c36
                clear c36
                obtain ⟨y123, hy123⟩ : ∃ y_ : List Int, y_ = (y120 ++ x1_2) := ⟨_, rfl⟩
                replace H : (some (a0, y123, x2_2)) = some (r1, r2, r3) := by first | (rw [hy123]; with_reducible exact H) | (have H2_ := (Option.bind_some _ _).symm.trans H; rw [hy123]; with_reducible exact H2_) | (have H2_ := (Option.bind_some _ _).symm.trans H; with_reducible exact H2_) | with_reducible exact H | (rw [hy123]; exact H) | exact H
                have Ny123 := Aside0.mk hy123
                clear hy123
                simp only [Option.some.injEq, Prod.mk.injEq] at H
                obtain ⟨rfl, rfl, rfl⟩ := H
                obtain ⟨Ao37, co37, eo37⟩ := Kd.V_slice HO_1.out
                subst eo37
                go_wp2_with (first | ((with_reducible refine gate_dst (N := 42) rfl ?_); (try (refine gate_guard (by rfl) ?_; dsimp only)); refine Kd.R_lit (Kd.int .i64) _ 3 ?hg (N := 42) ?hd (xs := ([] : List Int)) (inner := []) (ok := fun _ => True) (okp := fun _ => True) ?hr ?hp (fun _ hk => hk) trivial (Below.refl _ _) (Nat.le_refl _) (by simp) ?_; (case hd => rfl); (case hg => rfl); (case hr => first | (go_simp; done) | (go_simp; rfl)); (case hp => exact (Reps.none _ _)); intro v121 w38 ho39 hb hg_ hnew_; clear hg_ hnew_; (first | rw [← Ny120.out] at ho39 | (simp only [Int.reduceToNat] at ho39; rw [← Ny120.out] at ho39)); have n0_ := Aside0.mk (Kd.V_elder' (by (with_reducible repeat (first | apply Kd.V_alloc | apply Kd.V_drewN | apply Kd.V_drew)); exact HO_1.out) (Kd.R_base ho39) hb); have n1_ := Aside0.mk (Kd.R_lower (Kd.R_newM (M := fun k_ => (w.heap.size ≤ k_)) ho39 (below_size (by repeat (first | (with_reducible first | exact HB.out | apply below_alloc | apply pw_below_drewN | apply below_drew1 | refine below_set ?_ GE101.out) | exact HB.out))) (fun k_ h_ => h_)) (below_size (by repeat (first | (with_reducible first | exact HB.out | apply below_alloc | apply pw_below_drewN | apply below_drew1 | refine below_set ?_ GE101.out) | exact HB.out)))); have n2_ := Aside0.mk (blk_below (g := gb101) (o := .cells #[.bool false, .slice none 0 0, .int .i64 0] 32 (0, 0)) (by (with_reducible repeat (first | refine blk_drewN ?_ _ | refine blk_drew ?_ | refine blk_alloc ?_ _)); exact BK101.out) hb); have n3_ := Aside0.mk (below_step (by repeat (first | (with_reducible first | exact HB.out | apply below_alloc | apply pw_below_drewN | apply below_drew1 | refine below_set ?_ GE101.out) | exact HB.out)) hb); clear HO_1; clear BK101; clear HB; have HO_1 := n0_; have HO122 := n1_; have BK101 := n2_; have HB := n3_; clear n0_ n1_ n2_ n3_; clear hb ho39) | ((with_reducible refine gate_builtin (b := .append) (xs := #[.tmp 42, .tmp 43]) rfl ?_); (try (refine gate_guard (by rfl) ?_; dsimp only)); at_builtin; refine Kd.R_append_rows (Kd.int .i64) (w0 := w) w.heap.size rfl (.tmp 42) (.tmp 43) 30 3 (.int .i64 0) 8 rfl Try.underlying30 info3 rfl (by decide) (by omega) v121 y120 x1_2 _ _ _ (fun k_ => (w.heap.size ≤ k_)) (fun _ => False) rfl rfl ?aO ?aR (fun _ _ h => h) (fun _ h => h.elim) ?aF ?aB ?aS ?aL ?_; (case aR => repeat (first | exact (Kd.V_reads' HO_1.out).2.2 | (with_reducible refine Kd.C_alloc ?_ _) | (with_reducible refine Kd.C_drewN ?_ _) | (with_reducible refine Kd.C_drew ?_))); (case aB => exact (by repeat (first | (with_reducible first | exact HB.out | apply below_alloc | apply pw_below_drewN | apply below_drew1 | refine below_set ?_ GE101.out) | exact HB.out))); (case aF => exact (fun k_ hk => (Nat.le_trans (below_size (by repeat (first | (with_reducible first | exact HB.out | apply below_alloc | apply pw_below_drewN | apply below_drew1 | refine below_set ?_ GE101.out) | exact HB.out))) hk))); (case aO => exact (by (with_reducible repeat (first | apply Kd.R_alloc | apply Kd.R_drewN | apply Kd.R_drew)); exact Kd.R_mono HO122.out (fun _ hk => hk.1))); (case aS => exact (below_size (by repeat (first | (with_reducible first | exact HB.out | apply below_alloc | apply pw_below_drewN | apply below_drew1 | refine below_set ?_ GE101.out) | exact HB.out)))); (case aL => have := LMc36.out; omega); intro v124 w40 ho hb hg hat; rw [← Ny123.out] at ho; have n0_ := Aside0.mk (Kd.V_afterv (ok := (fun k_ => (P1_ k_ ∨ w.heap.size ≤ k_) ∧ k_ ≠ gb101)) (by (with_reducible repeat (first | apply Kd.V_alloc | apply Kd.V_drewN | apply Kd.V_drew)); exact HO_1.out) hg hat); have n1_ := Aside0.mk (blk_grown (g := gb101) (o := .cells #[.bool false, .slice none 0 0, .int .i64 0] 32 (0, 0)) (by (with_reducible repeat (first | refine blk_drewN ?_ _ | refine blk_drew ?_ | refine blk_alloc ?_ _)); exact BK101.out) hg (Kd.R_ne HO122.out BK101.out (by decide))); have n2_ := Aside0.mk (hb); have n3_ := Aside0.mk (ho); clear HO_1; clear BK101; clear HB; clear HO122; have HO_1 := n0_; have BK101 := n1_; have HB := n2_; have HO125 := n3_; clear n0_ n1_ n2_ n3_; clear ho hb hg hat; obtain ⟨Ao41, co41, eo41⟩ := Kd.R_slice HO125.out; subst eo41; have hcz42_0 : w40.cell? ⟨gb101, 0, none⟩ = some (.bool false) := (blk_cell BK101.out 0).trans rfl; have hcz42_1 : w40.cell? ⟨gb101, 1, none⟩ = some (.slice none 0 0) := (blk_cell BK101.out 1).trans rfl; have hcz42_2 : w40.cell? ⟨gb101, 2, none⟩ = some (.int .i64 0) := (blk_cell BK101.out 2).trans rfl; have hfz42_0 := blk_frozen BK101.out 0; have hfz42_1 := blk_frozen BK101.out 1; have hfz42_2 := blk_frozen BK101.out 2))
                refine bodyPost_ret (results_cell_row rfl _ _ gb101 32 #[.bool a0, .slice Ao41 y123.length co41, .int .i64 x2_2] (0, 0) _ rfl (by (with_reducible repeat (first | refine blk_drewN ?_ _ | refine blk_drew ?_ | refine blk_alloc ?_ _)); refine blk_put (cs := #[.bool a0, .slice Ao41 y123.length co41, .int .i64 0]) ?_ 2 _ rfl; (with_reducible repeat (first | refine blk_drewN ?_ _ | refine blk_drew ?_ | refine blk_alloc ?_ _)); refine blk_put (cs := #[.bool a0, .slice none 0 0, .int .i64 0]) ?_ 1 _ rfl; (with_reducible repeat (first | refine blk_drewN ?_ _ | refine blk_drew ?_ | refine blk_alloc ?_ _)); refine blk_put (cs := #[.bool false, .slice none 0 0, .int .i64 0]) ?_ 0 _ rfl; (with_reducible repeat (first | refine blk_drewN ?_ _ | refine blk_drew ?_ | refine blk_alloc ?_ _)); exact BK101.out) Try.underlying32 rfl (by kernel_rfl)) rfl ?_
                exact ⟨_, by first | rfl | (simp [errW_none, errW_some] <;> rfl) | (simp [*, errW_none, errW_some] <;> rfl), by (with_reducible repeat (first | apply Kd.R_alloc | apply Kd.R_drewN | apply Kd.R_drew)); exact Kd.R_mono (Kd.R_far (p := ⟨gb101, 2, none⟩) (Kd.R_far (p := ⟨gb101, 1, none⟩) (Kd.R_far (p := ⟨gb101, 0, none⟩) (Kd.R_types HO125.out BK101.out (by decide)) (fun _ hk => hk.2) (.bool a0)) (fun _ hk => hk.2) (.slice Ao41 y123.length co41)) (fun _ hk => hk.2) (.int .i64 x2_2)) (fun _ hk => hk.1), by repeat (first | (with_reducible first | exact HB.out | apply below_alloc | apply pw_below_drewN | apply below_drew1 | refine below_set ?_ GE101.out) | exact HB.out)⟩
              · rw [if_neg c36] at H
                exact absurd H (by simp)

/-! ### spec_DecimalOf: function 19 -/
mutual
def spec_DecimalOf.j0 : Nat → Int → Int → Int → Option (Bool × List Int × Int)
  | 0, _, _, _ => none
  | k + 1, x0, x1, x5 => spec_DecimalOf.l0 k x0 x1 x5 ([] : List Int)
def spec_DecimalOf.l0 : Nat → Int → Int → Int → List Int → Option (Bool × List Int × Int)
  | 0, _, _, _, _ => none
  | k + 1, x0, x1, x5, x6 => if x5 > 0 then ((some (([wrap64 (Int.tmod x5 10)] : List Int) : List Int)).bind fun y127 => (if y127.length + x6.length < 17592186044416 then (spec_DecimalOf.l0 k x0 x1 (IntKind.u64.wrap (Int.tdiv x5 10)) (y127 ++ x6)) else (none))) else ((spec_decimal.f k (decide (x0 < 0)) x6 x1).bind fun bt133 => (some (bt133.1, bt133.2.1, bt133.2.2)))
end
def spec_DecimalOf.f (k : Nat) (a0 : Int) (a1 : Int) : Option (Bool × List Int × Int) := if a0 < 0 then (spec_DecimalOf.j0 k a0 a1 (IntKind.u64.wrap (-(IntKind.u64.wrap (a0))))) else (spec_DecimalOf.j0 k a0 a1 (IntKind.u64.wrap (a0)))
theorem spec_DecimalOf.mono_l : ∀ k, (∀ y0 y1 y2, LeO (spec_DecimalOf.j0 k y0 y1 y2) (spec_DecimalOf.j0 (k + 1) y0 y1 y2)) ∧ (∀ y0 y1 y2 y3, LeO (spec_DecimalOf.l0 k y0 y1 y2 y3) (spec_DecimalOf.l0 (k + 1) y0 y1 y2 y3))
  | 0 => ⟨fun _ _ _ r h => by simp [spec_DecimalOf.j0] at h, fun _ _ _ _ r h => by simp [spec_DecimalOf.l0] at h⟩
  | k + 1 => by
    obtain ⟨ih0, ih1⟩ := spec_DecimalOf.mono_l k
    refine ⟨?_, ?_⟩
    · intro y0 y1 y2
      unfold spec_DecimalOf.j0
      repeat' first
      | (with_reducible exact ih0 _ _ _)
      | (with_reducible exact ih1 _ _ _ _)
      | (with_reducible exact spec_decimal.mono _ _ _ _)
      | (with_reducible exact LeO.refl _)
      | (with_reducible exact LeO.none _)
      | (with_reducible refine LeO.ite ?_ ?_)
      | (with_reducible refine LeO.bind ?_ (fun _ => ?_))
      | exact ih0 _ _ _
      | exact ih1 _ _ _ _
      | exact spec_decimal.mono _ _ _ _
      | exact LeO.none _
      | refine LeO.ite ?_ ?_
      | refine LeO.bind ?_ (fun _ => ?_)
    · intro y0 y1 y2 y3
      unfold spec_DecimalOf.l0
      repeat' first
      | (with_reducible exact ih0 _ _ _)
      | (with_reducible exact ih1 _ _ _ _)
      | (with_reducible exact spec_decimal.mono _ _ _ _)
      | (with_reducible exact LeO.refl _)
      | (with_reducible exact LeO.none _)
      | (with_reducible refine LeO.ite ?_ ?_)
      | (with_reducible refine LeO.bind ?_ (fun _ => ?_))
      | exact ih0 _ _ _
      | exact ih1 _ _ _ _
      | exact spec_decimal.mono _ _ _ _
      | exact LeO.none _
      | refine LeO.ite ?_ ?_
      | refine LeO.bind ?_ (fun _ => ?_)
theorem spec_DecimalOf.mono : ∀ a0 a1 k, LeO (spec_DecimalOf.f k a0 a1) (spec_DecimalOf.f (k + 1) a0 a1) := by
  intro a0 a1 k
  obtain ⟨ih0, ih1⟩ := spec_DecimalOf.mono_l k
  unfold spec_DecimalOf.f
  repeat' first
      | (with_reducible exact ih0 _ _ _)
      | (with_reducible exact ih1 _ _ _ _)
      | (with_reducible exact spec_decimal.mono _ _ _ _)
      | (with_reducible exact LeO.refl _)
      | (with_reducible exact LeO.none _)
      | (with_reducible refine LeO.ite ?_ ?_)
      | (with_reducible refine LeO.bind ?_ (fun _ => ?_))
      | exact ih0 _ _ _
      | exact ih1 _ _ _ _
      | exact spec_decimal.mono _ _ _ _
      | exact LeO.none _
      | refine LeO.ite ?_ ?_
      | refine LeO.bind ?_ (fun _ => ?_)
set_option maxHeartbeats 8000000 in
set_option maxRecDepth 100000 in
theorem spec_DecimalOf.calls (k : Nat) (a0 : Int) (a1 : Int) (r1 : Bool) (r2 : List Int) (r3 : Int) (w : World) (h : spec_DecimalOf.f k a0 a1 = some (r1, r2, r3)) :
    Calls Try.prog 19 #[.int .i64 a0, .int .i64 a1] w fun e w' => ∃ v1_ : Value, e = .returned (.agg #[.bool r1, v1_, .int .i64 r3]) ∧ Kd.R (Kd.int .i64) 3 w' w.heap.size (fun _ => True) v1_ r2 ∧ Below w.heap.size w w' := by
  have hu32 := Try.underlying32
  have HB := Aside0.mk (Below.refl w.heap.size w)
  have H : (if a0 < 0 then (spec_DecimalOf.j0 k a0 a1 (IntKind.u64.wrap (-(IntKind.u64.wrap (a0))))) else (spec_DecimalOf.j0 k a0 a1 (IntKind.u64.wrap (a0)))) = some (r1, r2, r3) := h
  clear h
  have HC3 := Aside0.mk H
  clear H
  go_enter Try.func19, Try.ntmps19
  go_upto_if 10 with (first | ((with_reducible refine gate_dst (N := 4) rfl ?_); refine box_event ?hg (N := 4) ?hd (cs := #[.bool false, .slice none 0 0, .int .i64 0]) (t := 32) ?hr ?_; (case hd => rfl); (case hg => rfl); (case hr => first | (go_simp; done) | (go_simp; rfl)); intro gb126 hg w4 hbox hb; have n0_ := Aside0.mk (below_step (by repeat (first | (with_reducible first | exact HB.out | apply below_alloc | apply pw_below_drewN | apply below_drew1) | exact HB.out)) hb); have n1_ := Aside0.mk (hbox); have n2_ := Aside0.mk ((by rw [hg]; exact (below_size (by repeat (first | (with_reducible first | exact HB.out | apply below_alloc | apply pw_below_drewN | apply below_drew1) | exact HB.out))) : w.heap.size ≤ gb126)); have n3_ := Aside0.mk ((by rw [hg]; exact (below_size (by repeat (first | (with_reducible first | exact HB.out | apply below_alloc | apply pw_below_drewN | apply below_drew1) | exact HB.out))) : w.heap.size ≤ gb126)); clear HB; have HB := n0_; have BK126 := n1_; have GW126 := n2_; have GE126 := n3_; clear n0_ n1_ n2_ n3_; clear hb hbox hg))
  (try simp only [Act.put, List.setIfInBounds_toArray, List.set_cons_zero, List.set_cons_succ])
  go_cut [5] (fun v5 wc => ∃ (kq : Nat) (x5_2 : Int), v5 = .int .u64 x5_2 ∧ Aside0 (spec_DecimalOf.j0 kq a0 a1 x5_2 = some (r1, r2, r3)) ∧ Aside0 (kq ≤ k) ∧ Aside0 (wc.heap[gb126]? = some (.cells #[.bool false, (.slice none 0 0), .int .i64 0] 32 (0, 0))) ∧ Aside0 (Below w.heap.size w wc))
  case first =>
    have H := HC3.out
    clear HC3
    by_cases c5 : a0 < 0
    · rw [if_pos c5] at H
      have c5b0 : decide (a0 < 0) = true := decide_eq_true c5
      clear c5
      (first | rw [c5b0] | (simp only [i64_w, i32_w]; rw [c5b0]) | skip)
      have H' := Aside0.mk H
      clear H
      go_wp2
      go_meet
      case rel => exact ⟨_, (IntKind.u64.wrap (-(IntKind.u64.wrap (a0)))), (by first | rfl | (simp; done) | (simp [*]; done)), H', ⟨by first | omega | exact Nat.le_refl _⟩, ⟨by (with_reducible repeat (first | refine blk_drewN ?_ _ | refine blk_drew ?_ | refine blk_alloc ?_ _)); exact BK126.out⟩, ⟨by repeat (first | (with_reducible first | exact HB.out | apply below_alloc | apply pw_below_drewN | apply below_drew1 | refine below_set ?_ GE126.out) | exact HB.out)⟩⟩
    · rw [if_neg c5] at H
      have c5b0 : decide (a0 < 0) = false := decide_eq_false c5
      clear c5
      (first | rw [c5b0] | (simp only [i64_w, i32_w]; rw [c5b0]) | skip)
      have H' := Aside0.mk H
      clear H
      go_wp2
      go_meet
      case rel => exact ⟨_, (IntKind.u64.wrap (a0)), (by first | rfl | (simp; done) | (simp [*]; done)), H', ⟨by first | omega | exact Nat.le_refl _⟩, ⟨by (with_reducible repeat (first | refine blk_drewN ?_ _ | refine blk_drew ?_ | refine blk_alloc ?_ _)); exact BK126.out⟩, ⟨by repeat (first | (with_reducible first | exact HB.out | apply below_alloc | apply pw_below_drewN | apply below_drew1 | refine below_set ?_ GE126.out) | exact HB.out)⟩⟩
  case rest =>
    clear HC3
    try clear c1
    try clear p2
    try clear c5
    try clear c5b0
    obtain ⟨kq, x5_2, rfl, HA, HJ2, BK126, HB⟩ := hcut
    cases kq with
    | zero => exact absurd HA.out (by simp [spec_DecimalOf.j0])
    | succ kj2 =>
      have H := HA.out
      clear HA
      simp only [spec_DecimalOf.j0] at H
      have H' := Aside0.mk H
      clear H
      go_wp2
      go_loopg [5, 6] kj2 (fun kq v5 v6 w' => ∃ (x5_2 : Int) (x6_2 : List Int), v5 = .int .u64 x5_2 ∧ Aside0 (spec_DecimalOf.l0 kq a0 a1 x5_2 x6_2 = some (r1, r2, r3)) ∧ Aside0 (kq ≤ kj2) ∧ Aside0 (Kd.R (Kd.int .i64) 3 w' w.heap.size (fun _ => True) v6 x6_2) ∧ Aside0 (w'.heap[gb126]? = some (.cells #[.bool false, (.slice none 0 0), .int .i64 0] 32 (0, 0))) ∧ Aside0 (Below w.heap.size w w'))
      case atStart => exact ⟨(x5_2), (([] : List Int)), (by first | rfl | (simp; done) | (simp [*]; done)), H', ⟨Nat.le_refl _⟩, ⟨by first | exact Kd.R_nil _ _ _ _ _ | exact Kd.N_nil _ _ _ _ _ | exact Kd.V_nil _ _ _ _ _ | exact Kd.Q_nil _ _ _ _ _ | exact Kd.S_nil _ _ _ _ _⟩, ⟨by (with_reducible repeat (first | refine blk_drewN ?_ _ | refine blk_drew ?_ | refine blk_alloc ?_ _)); exact BK126.out⟩, ⟨by repeat (first | (with_reducible first | exact HB.out | apply below_alloc | apply pw_below_drewN | apply below_drew1 | refine below_set ?_ GE126.out) | exact HB.out)⟩⟩
      case round =>
        clear H'
        try clear c1
        try clear p2
        try clear c5
        try clear c5b0
        try clear p2
        obtain ⟨x5_2, x6_2, rfl, HA, HK2, HO_6, BK126, HB⟩ := hrel
        cases gk with
        | zero => exact absurd HA.out (by simp [spec_DecimalOf.l0])
        | succ k2 =>
          have H := HA.out
          clear HA
          simp only [spec_DecimalOf.l0] at H
          by_cases c6 : x5_2 > 0
          · rw [if_pos c6] at H
            have c6b0 : decide (0 < x5_2) = true := decide_eq_true c6
            clear c6
            obtain ⟨y127, hy127⟩ : ∃ y_ : List Int, y_ = (([wrap64 (Int.tmod x5_2 10)] : List Int)) := ⟨_, rfl⟩
            replace H : (if y127.length + x6_2.length < 17592186044416 then (spec_DecimalOf.l0 k2 a0 a1 (IntKind.u64.wrap (Int.tdiv x5_2 10)) (y127 ++ x6_2)) else (none)) = some (r1, r2, r3) := by first | (rw [hy127]; with_reducible exact H) | (have H2_ := (Option.bind_some _ _).symm.trans H; rw [hy127]; with_reducible exact H2_) | (have H2_ := (Option.bind_some _ _).symm.trans H; with_reducible exact H2_) | with_reducible exact H | (rw [hy127]; exact H) | exact H
            have Ny127 := Aside0.mk hy127
            clear hy127
            by_cases c7 : y127.length + x6_2.length < 17592186044416
            · rw [if_pos c7] at H
              have LMc7 := Aside0.mk c7
              clear c7
              obtain ⟨y130, hy130⟩ : ∃ y_ : List Int, y_ = (y127 ++ x6_2) := ⟨_, rfl⟩
              replace H : (spec_DecimalOf.l0 k2 a0 a1 (IntKind.u64.wrap (Int.tdiv x5_2 10)) y130) = some (r1, r2, r3) := by first | (rw [hy130]; with_reducible exact H) | (have H2_ := (Option.bind_some _ _).symm.trans H; rw [hy130]; with_reducible exact H2_) | (have H2_ := (Option.bind_some _ _).symm.trans H; with_reducible exact H2_) | with_reducible exact H | (rw [hy130]; exact H) | exact H
              have Ny130 := Aside0.mk hy130
              clear hy130
              have H' := Aside0.mk H
              clear H
              go_wp2_with (first | ((with_reducible refine gate_dst (N := 20) rfl ?_); refine Kd.R_lit (Kd.int .i64) _ 3 ?hg (N := 20) ?hd (xs := ([wrap64 (Int.tmod x5_2 10)] : List Int)) (inner := [.int .i64 (wrap64 (Int.tmod x5_2 10))]) (ok := fun _ => True) (okp := fun _ => True) ?hr ?hp (fun _ hk => hk) trivial (Below.refl _ _) (Nat.le_refl _) (by simp) ?_; (case hd => rfl); (case hg => rfl); (case hr => first | (go_simp; done) | (go_simp; rfl)); (case hp => exact (Reps.one (show Kd.M (Kd.int .i64) _ _ _ (wrap64 (Int.tmod x5_2 10)) [.int .i64 (wrap64 (Int.tmod x5_2 10))] from rfl) (Reps.none _ _))); intro v128 w8 ho9 hb hg_ hnew_; clear hg_ hnew_; (first | rw [← Ny127.out] at ho9 | (simp only [Int.reduceToNat] at ho9; rw [← Ny127.out] at ho9)); have n0_ := Aside0.mk (Kd.R_elder' (by (with_reducible repeat (first | apply Kd.R_alloc | apply Kd.R_drewN | apply Kd.R_drew)); exact HO_6.out) (Kd.R_base ho9) hb); have n1_ := Aside0.mk (Kd.R_lower (Kd.R_new' ho9 (Kd.R_lt (by (with_reducible repeat (first | apply Kd.R_alloc | apply Kd.R_drewN | apply Kd.R_drew)); exact HO_6.out))) (below_size (by repeat (first | (with_reducible first | exact HB.out | apply below_alloc | apply pw_below_drewN | apply below_drew1 | refine below_set ?_ GE126.out) | exact HB.out)))); have n2_ := Aside0.mk (blk_below (g := gb126) (o := .cells #[.bool false, .slice none 0 0, .int .i64 0] 32 (0, 0)) (by (with_reducible repeat (first | refine blk_drewN ?_ _ | refine blk_drew ?_ | refine blk_alloc ?_ _)); exact BK126.out) hb); have n3_ := Aside0.mk (below_step (by repeat (first | (with_reducible first | exact HB.out | apply below_alloc | apply pw_below_drewN | apply below_drew1 | refine below_set ?_ GE126.out) | exact HB.out)) hb); clear HO_6; clear BK126; clear HB; have HO_6 := n0_; have HO129 := n1_; have BK126 := n2_; have HB := n3_; clear n0_ n1_ n2_ n3_; clear hb ho9; obtain ⟨Ao11, co11, eo11⟩ := Kd.R_slice HO_6.out; subst eo11) | ((with_reducible refine gate_builtin (b := .append) (xs := #[.tmp 20, .tmp 21]) rfl ?_); at_builtin; refine Kd.R_append_rows (Kd.int .i64) (w0 := w) w.heap.size rfl (.tmp 20) (.tmp 21) 30 3 (.int .i64 0) 8 rfl Try.underlying30 info3 rfl (by decide) (by omega) v128 y127 x6_2 _ _ _ (fun k_ => some k_ ≠ (.slice Ao11 x6_2.length co11 : Value).ownBlock) (fun _ => False) rfl rfl ?aO ?aR (fun _ _ h => h) (fun _ h => h.elim) ?aF ?aB ?aS ?aL ?_; (case aR => repeat (first | exact (Kd.R_reads' HO_6.out).2.2 | (with_reducible refine Kd.C_alloc ?_ _) | (with_reducible refine Kd.C_drewN ?_ _) | (with_reducible refine Kd.C_drew ?_))); (case aB => exact (by repeat (first | (with_reducible first | exact HB.out | apply below_alloc | apply pw_below_drewN | apply below_drew1 | refine below_set ?_ GE126.out) | exact HB.out))); (case aF => exact (fun k_ hk => Kd.fresh' (Kd.R_lt (by (with_reducible repeat (first | apply Kd.R_alloc | apply Kd.R_drewN | apply Kd.R_drew)); exact HO_6.out)) k_ hk)); (case aO => exact (by (with_reducible repeat (first | apply Kd.R_alloc | apply Kd.R_drewN | apply Kd.R_drew)); exact Kd.R_mono HO129.out (fun _ hk => hk.2))); (case aS => exact (below_size (by repeat (first | (with_reducible first | exact HB.out | apply below_alloc | apply pw_below_drewN | apply below_drew1 | refine below_set ?_ GE126.out) | exact HB.out)))); (case aL => have := LMc7.out; omega); intro v131 w10 ho hb hg hat; rw [← Ny130.out] at ho; have n0_ := Aside0.mk (Kd.R_after (ok := (fun _ => True)) (by (with_reducible repeat (first | apply Kd.R_alloc | apply Kd.R_drewN | apply Kd.R_drew)); exact HO_6.out) hg hat); have n1_ := Aside0.mk (blk_grown (g := gb126) (o := .cells #[.bool false, .slice none 0 0, .int .i64 0] 32 (0, 0)) (by (with_reducible repeat (first | refine blk_drewN ?_ _ | refine blk_drew ?_ | refine blk_alloc ?_ _)); exact BK126.out) hg (Kd.R_ne HO129.out BK126.out (by decide))); have n2_ := Aside0.mk (hb); have n3_ := Aside0.mk (ho); clear HO_6; clear BK126; clear HB; clear HO129; have HO_6 := n0_; have BK126 := n1_; have HB := n2_; have HO132 := n3_; clear n0_ n1_ n2_ n3_; clear ho hb hg hat))
              go_roundg k2
              case measure => have := HJ2.out; have := HK2.out; omega
              case rel => exact ⟨(IntKind.u64.wrap (Int.tdiv x5_2 10)), (y130), (by first | rfl | (simp; done) | (simp [*]; done)), H', ⟨by have := HJ2.out; have := HK2.out; omega⟩, ⟨by (with_reducible repeat (first | apply Kd.R_alloc | apply Kd.R_drewN | apply Kd.R_drew)); exact Kd.R_mono HO132.out (fun _ hk => trivial)⟩, ⟨by (with_reducible repeat (first | refine blk_drewN ?_ _ | refine blk_drew ?_ | refine blk_alloc ?_ _)); exact BK126.out⟩, ⟨by repeat (first | (with_reducible first | exact HB.out | apply below_alloc | apply pw_below_drewN | apply below_drew1 | refine below_set ?_ GE126.out) | exact HB.out)⟩⟩
            · rw [if_neg c7] at H
              exact absurd H (by simp)
          · rw [if_neg c6] at H
            have c6b0 : decide (0 < x5_2) = false := decide_eq_false c6
            clear c6
            replace H := Option.bind_eq_some_iff.mp H
            obtain ⟨⟨t133, t134, t137⟩, A120, H⟩ := H
            replace H : (some (t133, t134, t137)) = some (r1, r2, r3) := H
            have A12 := Aside0.mk A120
            clear A120
            simp only [Option.some.injEq, Prod.mk.injEq] at H
            obtain ⟨rfl, rfl, rfl⟩ := H
            obtain ⟨Ao13, co13, eo13⟩ := Kd.R_slice HO_6.out
            subst eo13
            go_wp2_with (first | ((with_reducible refine gate_callee (f := 29) rfl ?_); refine goesL_ (some 27) rfl rfl Try.func29 (by kernel_rfl) rfl #[.bool (decide (a0 < 0)), .slice Ao13 x6_2.length co13, .int .i64 a1] rfl (by (try simp only [List.map_toArray, List.map_cons, List.map_nil]); first | done | rfl | (simp only [List.length_drop, List.length_take]; rfl)) ?_; (with_reducible refine (spec_decimal.calls k2 (decide (a0 < 0)) (fun k_ => some k_ = (.slice Ao13 x6_2.length co13 : Value).ownBlock) _ _ x6_2 a1 t133 t134 t137 _ ?side1 A12.out).mono ?_); (case side1 => exact Kd.R_V (Kd.R_tight rfl (Kd.R_types (HO_6.out) BK126.out (by decide)))); rintro e w14 ⟨v135, rfl, ho0, hb⟩; refine ⟨_, rfl, ?_⟩; have n0_ := Aside0.mk (Kd.R_elder' (by (with_reducible repeat (first | apply Kd.R_alloc | apply Kd.R_drewN | apply Kd.R_drew)); exact HO_6.out) (Kd.R_base ho0) hb); have n1_ := Aside0.mk (Kd.R_lower (Kd.R_new' (Kd.R_mono (ok' := fun k_ => True) ho0 (fun _ hk_ => trivial)) (Kd.R_lt (by (with_reducible repeat (first | apply Kd.R_alloc | apply Kd.R_drewN | apply Kd.R_drew)); exact HO_6.out))) (below_size (by repeat (first | (with_reducible first | exact HB.out | apply below_alloc | apply pw_below_drewN | apply below_drew1 | refine below_set ?_ GE126.out) | exact HB.out)))); have n2_ := Aside0.mk (blk_below (g := gb126) (o := .cells #[.bool false, .slice none 0 0, .int .i64 0] 32 (0, 0)) (by (with_reducible repeat (first | refine blk_drewN ?_ _ | refine blk_drew ?_ | refine blk_alloc ?_ _)); exact BK126.out) hb); have n3_ := Aside0.mk (below_step (by repeat (first | (with_reducible first | exact HB.out | apply below_alloc | apply pw_below_drewN | apply below_drew1 | refine below_set ?_ GE126.out) | exact HB.out)) hb); clear HO_6; clear BK126; clear HB; have HO_6 := n0_; have HO136 := n1_; have BK126 := n2_; have HB := n3_; clear n0_ n1_ n2_ n3_; (try clear hb); (try clear hb2); (try clear hk); (try clear hi); (try clear ho0); have hcz15_0 : w14.cell? ⟨gb126, 0, none⟩ = some (.bool false) := (blk_cell BK126.out 0).trans rfl; have hcz15_1 : w14.cell? ⟨gb126, 1, none⟩ = some (.slice none 0 0) := (blk_cell BK126.out 1).trans rfl; have hcz15_2 : w14.cell? ⟨gb126, 2, none⟩ = some (.int .i64 0) := (blk_cell BK126.out 2).trans rfl; have hfz15_0 := blk_frozen BK126.out 0; have hfz15_1 := blk_frozen BK126.out 1; have hfz15_2 := blk_frozen BK126.out 2; obtain ⟨Ao16, co16, eo16⟩ := Kd.R_slice HO136.out; subst eo16))
            refine bodyPost_ret (results_cell_row rfl _ _ gb126 32 #[.bool t133, .slice Ao16 t134.length co16, .int .i64 t137] (0, 0) _ rfl (by (with_reducible repeat (first | refine blk_drewN ?_ _ | refine blk_drew ?_ | refine blk_alloc ?_ _)); refine blk_put (cs := #[.bool t133, .slice Ao16 t134.length co16, .int .i64 0]) ?_ 2 _ rfl; (with_reducible repeat (first | refine blk_drewN ?_ _ | refine blk_drew ?_ | refine blk_alloc ?_ _)); refine blk_put (cs := #[.bool t133, .slice none 0 0, .int .i64 0]) ?_ 1 _ rfl; (with_reducible repeat (first | refine blk_drewN ?_ _ | refine blk_drew ?_ | refine blk_alloc ?_ _)); refine blk_put (cs := #[.bool false, .slice none 0 0, .int .i64 0]) ?_ 0 _ rfl; (with_reducible repeat (first | refine blk_drewN ?_ _ | refine blk_drew ?_ | refine blk_alloc ?_ _)); exact BK126.out) Try.underlying32 rfl (by kernel_rfl)) rfl ?_
            exact ⟨_, by first | rfl | (simp [errW_none, errW_some] <;> rfl) | (simp [*, errW_none, errW_some] <;> rfl), by (with_reducible repeat (first | apply Kd.R_alloc | apply Kd.R_drewN | apply Kd.R_drew)); exact Kd.R_mono (Kd.R_far (p := ⟨gb126, 2, none⟩) (Kd.R_far (p := ⟨gb126, 1, none⟩) (Kd.R_far (p := ⟨gb126, 0, none⟩) (Kd.R_types HO136.out BK126.out (by decide)) (fun _ hk => hk.2) (.bool t133)) (fun _ hk => hk.2) (.slice Ao16 t134.length co16)) (fun _ hk => hk.2) (.int .i64 t137)) (fun _ hk => trivial), by repeat (first | (with_reducible first | exact HB.out | apply below_alloc | apply pw_below_drewN | apply below_drew1 | refine below_set ?_ GE126.out) | exact HB.out)⟩

end Go.Proofs.Ytmkpkpkcoieeiaa.XFnAmountSub
