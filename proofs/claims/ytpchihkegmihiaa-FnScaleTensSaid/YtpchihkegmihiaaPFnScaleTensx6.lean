-- PRINTED BY print.sh 35421559b90ae4d0a3588c463048766b98c2df88dd9212a6774a882060cdf62d: not written by this session
import Derived.Test.YtpchihkegmihiaaPFnScaleTensx0
import Derived.Test.YtpchihkegmihiaaPFnScaleTensx1
import Derived.Test.YtpchihkegmihiaaPFnScaleTensx2
import Derived.Test.YtpchihkegmihiaaPFnScaleTensx3
import Derived.Test.YtpchihkegmihiaaPFnScaleTensx4
import Derived.Test.YtpchihkegmihiaaPFnScaleTensx5
namespace Go.Proofs.Ytpchihkegmihiaa.PFnScaleTens
open Go.RowKit Go.Proofs.YtpchihkegmihiaaW.PrintWords Go.Proofs.YtpchihkegmihiaaW.PrintLast Go.Proofs.YtpchihkegmihiaaW.PrintMore
attribute [local go_sem] max2_int min2_int max_two min_two max_three min_three max_four min_four   -- for this text's walks alone
set_option linter.unusedVariables false
set_option linter.unusedSimpArgs false

/-! ### laws_FnScaleTens: function 5 -/
mutual
def laws_FnScaleTens.j0 : Nat → Int → Int → Bool → Option (Bool)
  | 0, _, _, _ => none
  | k + 1, x0, x1, x21 => if x21 = true then (some true) else (laws_FnScaleTens.l0 k x0 x1 0)
def laws_FnScaleTens.l0 : Nat → Int → Int → Int → Option (Bool)
  | 0, _, _, _ => none
  | k + 1, x0, x1, x22 => if x22 < 3 then ((spec_DecimalOf.f k x0 0).bind fun bt206 => ((spec_DecimalOf.f k 1 (wrap64 (x22 + 1))).bind fun bt211 => ((spec_DecimalTimes.f k bt206.1 bt206.2.1 bt206.2.2 bt211.1 bt211.2.1 bt211.2.2).bind fun bt216 => ((laws_scaleFits.f k bt216.1 bt216.2.1 bt216.2.2).bind fun bt221 => ((impl_Int64Times.f k x22 x0).bind fun bt223 => (if (bt223.2 != bt221.2) = true then (some false) else (if bt223.2 = true then (if bt223.1 = bt221.1 then (laws_FnScaleTens.l0 k x0 x1 (wrap64 (x22 + 1))) else (some false)) else (laws_FnScaleTens.l0 k x0 x1 (wrap64 (x22 + 1)))))))))) else ((spec_DecimalOf.f k x0 x1).bind fun bt225 => ((laws_scaleFits.f k bt225.1 bt225.2.1 bt225.2.2).bind fun bt230 => ((impl_ScaleUp.f k x0 x1).bind fun bt232 => (if (bt232.2 != bt230.2) = true then (laws_FnScaleTens.j2 k x1 true) else (if bt232.2 = true then (laws_FnScaleTens.j2 k x1 (bt232.1 != bt230.1)) else (laws_FnScaleTens.j2 k x1 false))))))
def laws_FnScaleTens.j2 : Nat → Int → Bool → Option (Bool)
  | 0, _, _ => none
  | k + 1, x1, x76 => if x76 = true then (some false) else ((spec_DecimalOf.f k 1 x1).bind fun bt234 => ((laws_scaleFits.f k bt234.1 bt234.2.1 bt234.2.2).bind fun bt239 => (if x1 > 18 then ((impl_Power10.f 3).bind fun t241 => (some (t241 == 1000))) else ((impl_Power10.f x1).bind fun t242 => (if t242 = bt239.1 then ((impl_Power10.f 3).bind fun t243 => (some (t243 == 1000))) else (some false))))))
end
def laws_FnScaleTens.f (k : Nat) (a0 : Int) (a1 : Int) : Option (Bool) := if a1 < 0 then (laws_FnScaleTens.j0 k a0 a1 true) else (laws_FnScaleTens.j0 k a0 a1 (decide (a1 > 500)))
theorem laws_FnScaleTens.mono_l : ∀ k, (∀ y0 y1 y2, LeO (laws_FnScaleTens.j0 k y0 y1 y2) (laws_FnScaleTens.j0 (k + 1) y0 y1 y2)) ∧ (∀ y0 y1 y2, LeO (laws_FnScaleTens.l0 k y0 y1 y2) (laws_FnScaleTens.l0 (k + 1) y0 y1 y2)) ∧ (∀ y0 y1, LeO (laws_FnScaleTens.j2 k y0 y1) (laws_FnScaleTens.j2 (k + 1) y0 y1))
  | 0 => ⟨fun _ _ _ r h => by simp [laws_FnScaleTens.j0] at h, fun _ _ _ r h => by simp [laws_FnScaleTens.l0] at h, fun _ _ r h => by simp [laws_FnScaleTens.j2] at h⟩
  | k + 1 => by
    obtain ⟨ih0, ih1, ih2⟩ := laws_FnScaleTens.mono_l k
    refine ⟨?_, ?_, ?_⟩
    · intro y0 y1 y2
      unfold laws_FnScaleTens.j0
      repeat' first
      | (with_reducible exact ih0 _ _ _)
      | (with_reducible exact ih1 _ _ _)
      | (with_reducible exact ih2 _ _)
      | (with_reducible exact impl_Int64Times.mono _ _ _)
      | (with_reducible exact impl_ScaleUp.mono _ _ _)
      | (with_reducible exact laws_scaleFits.mono _ _ _ _)
      | (with_reducible exact spec_DecimalOf.mono _ _ _)
      | (with_reducible exact spec_DecimalTimes.mono _ _ _ _ _ _ _)
      | (with_reducible exact LeO.refl _)
      | (with_reducible exact LeO.none _)
      | (with_reducible refine LeO.ite ?_ ?_)
      | (with_reducible refine LeO.bind ?_ (fun _ => ?_))
      | exact ih0 _ _ _
      | exact ih1 _ _ _
      | exact ih2 _ _
      | exact impl_Int64Times.mono _ _ _
      | exact impl_ScaleUp.mono _ _ _
      | exact laws_scaleFits.mono _ _ _ _
      | exact spec_DecimalOf.mono _ _ _
      | exact spec_DecimalTimes.mono _ _ _ _ _ _ _
      | exact LeO.none _
      | refine LeO.ite ?_ ?_
      | refine LeO.bind ?_ (fun _ => ?_)
    · intro y0 y1 y2
      unfold laws_FnScaleTens.l0
      repeat' first
      | (with_reducible exact ih0 _ _ _)
      | (with_reducible exact ih1 _ _ _)
      | (with_reducible exact ih2 _ _)
      | (with_reducible exact impl_Int64Times.mono _ _ _)
      | (with_reducible exact impl_ScaleUp.mono _ _ _)
      | (with_reducible exact laws_scaleFits.mono _ _ _ _)
      | (with_reducible exact spec_DecimalOf.mono _ _ _)
      | (with_reducible exact spec_DecimalTimes.mono _ _ _ _ _ _ _)
      | (with_reducible exact LeO.refl _)
      | (with_reducible exact LeO.none _)
      | (with_reducible refine LeO.ite ?_ ?_)
      | (with_reducible refine LeO.bind ?_ (fun _ => ?_))
      | exact ih0 _ _ _
      | exact ih1 _ _ _
      | exact ih2 _ _
      | exact impl_Int64Times.mono _ _ _
      | exact impl_ScaleUp.mono _ _ _
      | exact laws_scaleFits.mono _ _ _ _
      | exact spec_DecimalOf.mono _ _ _
      | exact spec_DecimalTimes.mono _ _ _ _ _ _ _
      | exact LeO.none _
      | refine LeO.ite ?_ ?_
      | refine LeO.bind ?_ (fun _ => ?_)
    · intro y0 y1
      unfold laws_FnScaleTens.j2
      repeat' first
      | (with_reducible exact ih0 _ _ _)
      | (with_reducible exact ih1 _ _ _)
      | (with_reducible exact ih2 _ _)
      | (with_reducible exact impl_Int64Times.mono _ _ _)
      | (with_reducible exact impl_ScaleUp.mono _ _ _)
      | (with_reducible exact laws_scaleFits.mono _ _ _ _)
      | (with_reducible exact spec_DecimalOf.mono _ _ _)
      | (with_reducible exact spec_DecimalTimes.mono _ _ _ _ _ _ _)
      | (with_reducible exact LeO.refl _)
      | (with_reducible exact LeO.none _)
      | (with_reducible refine LeO.ite ?_ ?_)
      | (with_reducible refine LeO.bind ?_ (fun _ => ?_))
      | exact ih0 _ _ _
      | exact ih1 _ _ _
      | exact ih2 _ _
      | exact impl_Int64Times.mono _ _ _
      | exact impl_ScaleUp.mono _ _ _
      | exact laws_scaleFits.mono _ _ _ _
      | exact spec_DecimalOf.mono _ _ _
      | exact spec_DecimalTimes.mono _ _ _ _ _ _ _
      | exact LeO.none _
      | refine LeO.ite ?_ ?_
      | refine LeO.bind ?_ (fun _ => ?_)
theorem laws_FnScaleTens.mono : ∀ a0 a1 k, LeO (laws_FnScaleTens.f k a0 a1) (laws_FnScaleTens.f (k + 1) a0 a1) := by
  intro a0 a1 k
  obtain ⟨ih0, ih1, ih2⟩ := laws_FnScaleTens.mono_l k
  unfold laws_FnScaleTens.f
  repeat' first
      | (with_reducible exact ih0 _ _ _)
      | (with_reducible exact ih1 _ _ _)
      | (with_reducible exact ih2 _ _)
      | (with_reducible exact impl_Int64Times.mono _ _ _)
      | (with_reducible exact impl_ScaleUp.mono _ _ _)
      | (with_reducible exact laws_scaleFits.mono _ _ _ _)
      | (with_reducible exact spec_DecimalOf.mono _ _ _)
      | (with_reducible exact spec_DecimalTimes.mono _ _ _ _ _ _ _)
      | (with_reducible exact LeO.refl _)
      | (with_reducible exact LeO.none _)
      | (with_reducible refine LeO.ite ?_ ?_)
      | (with_reducible refine LeO.bind ?_ (fun _ => ?_))
      | exact ih0 _ _ _
      | exact ih1 _ _ _
      | exact ih2 _ _
      | exact impl_Int64Times.mono _ _ _
      | exact impl_ScaleUp.mono _ _ _
      | exact laws_scaleFits.mono _ _ _ _
      | exact spec_DecimalOf.mono _ _ _
      | exact spec_DecimalTimes.mono _ _ _ _ _ _ _
      | exact LeO.none _
      | refine LeO.ite ?_ ?_
      | refine LeO.bind ?_ (fun _ => ?_)
set_option maxHeartbeats 8000000 in
set_option maxRecDepth 100000 in
theorem laws_FnScaleTens.calls (k : Nat) (a0 : Int) (a1 : Int) (r : Bool) (w : World) (h : laws_FnScaleTens.f k a0 a1 = some r) :
    Calls Try.prog 5 #[.int .i64 a0, .int .i64 a1] w fun e w' => e = .returned (.bool r) ∧ Below w.heap.size w w' := by
  have HB := Aside0.mk (Below.refl w.heap.size w)
  have H : (if a1 < 0 then (laws_FnScaleTens.j0 k a0 a1 true) else (laws_FnScaleTens.j0 k a0 a1 (decide (a1 > 500)))) = some r := h
  clear h
  have HC3 := Aside0.mk H
  clear H
  go_enter Try.func5, Try.ntmps5
  go_upto_region 1 with (fail)
  go_cut [21] (fun v21 wc => ∃ (kq : Nat) (x21_2 : Bool), v21 = .bool x21_2 ∧ Aside0 (laws_FnScaleTens.j0 kq a0 a1 x21_2 = some r) ∧ Aside0 (kq ≤ k) ∧ Aside0 (Below w.heap.size w wc))
  case first =>
    have H := HC3.out
    clear HC3
    by_cases c4 : a1 < 0
    · rw [if_pos c4] at H
      have c4b0 : decide (a1 < 0) = true := decide_eq_true c4
      clear c4
      (first | rw [c4b0] | (simp only [i64_w, i32_w]; rw [c4b0]) | skip)
      have H' := Aside0.mk H
      clear H
      go_wp2
      go_meet
      case rel => exact ⟨_, (true), (by first | rfl | (simp; done) | (simp [*]; done)), H', ⟨by first | omega | exact Nat.le_refl _⟩, ⟨by repeat (first | (with_reducible first | exact HB.out | apply below_alloc | apply pw_below_drewN | apply below_drew1) | exact HB.out)⟩⟩
    · rw [if_neg c4] at H
      have c4b0 : decide (a1 < 0) = false := decide_eq_false c4
      clear c4
      (first | rw [c4b0] | (simp only [i64_w, i32_w]; rw [c4b0]) | skip)
      have H' := Aside0.mk H
      clear H
      go_wp2
      go_meet
      case rel => exact ⟨_, (decide (a1 > 500)), (by first | rfl | (simp; done) | (simp [*]; done)), H', ⟨by first | omega | exact Nat.le_refl _⟩, ⟨by repeat (first | (with_reducible first | exact HB.out | apply below_alloc | apply pw_below_drewN | apply below_drew1) | exact HB.out)⟩⟩
  case rest =>
    clear HC3
    try clear p2
    try clear c4
    try clear c4b0
    obtain ⟨kq, x21_2, rfl, HA, HJ2, HB⟩ := hcut
    cases kq with
    | zero => exact absurd HA.out (by simp [laws_FnScaleTens.j0])
    | succ kj2 =>
      have H := HA.out
      clear HA
      simp only [laws_FnScaleTens.j0] at H
      by_cases c5 : x21_2 = true
      · subst c5
        have H1 : (some true) = some r := by rw [if_pos rfl] at H; exact H
        clear H
        have H := H1
        clear H1
        obtain rfl := Option.some.inj H
        go_wp2
        go_ret
        exact ⟨by first | rfl | (simp [errW_none, errW_some] <;> rfl) | (simp [*, errW_none, errW_some] <;> rfl), by repeat (first | (with_reducible first | exact HB.out | apply below_alloc | apply pw_below_drewN | apply below_drew1) | exact HB.out)⟩
      · replace c5 := Bool.eq_false_iff.mpr c5
        subst c5
        have H1 : (laws_FnScaleTens.l0 kj2 a0 a1 0) = some r := by rw [if_neg (show ¬ (false = true) by decide)] at H; exact H
        clear H
        have H := H1
        clear H1
        have H' := Aside0.mk H
        clear H
        go_wp2
        go_loopg [22] kj2 (fun kq v22 w' => ∃ (x22_2 : Int), v22 = .int .i64 x22_2 ∧ Aside0 (laws_FnScaleTens.l0 kq a0 a1 x22_2 = some r) ∧ Aside0 (kq ≤ kj2) ∧ Aside0 (Below w.heap.size w w'))
        case atStart => exact ⟨(0), (by first | rfl | (simp; done) | (simp [*]; done)), H', ⟨Nat.le_refl _⟩, ⟨by repeat (first | (with_reducible first | exact HB.out | apply below_alloc | apply pw_below_drewN | apply below_drew1) | exact HB.out)⟩⟩
        case round =>
          clear H'
          try clear p2
          try clear c4
          try clear c4b0
          try clear c5
          try clear p2
          obtain ⟨x22_2, rfl, HA, HK2, HB⟩ := hrel
          cases gk with
          | zero => exact absurd HA.out (by simp [laws_FnScaleTens.l0])
          | succ k2 =>
            have H := HA.out
            clear HA
            simp only [laws_FnScaleTens.l0] at H
            by_cases c6 : x22_2 < 3
            · rw [if_pos c6] at H
              have c6b0 : decide (x22_2 < 3) = true := decide_eq_true c6
              clear c6
              replace H := Option.bind_eq_some_iff.mp H
              obtain ⟨⟨t206, t207, t210⟩, A70, H⟩ := H
              replace H : ((spec_DecimalOf.f k2 1 (wrap64 (x22_2 + 1))).bind fun bt211 => ((spec_DecimalTimes.f k2 t206 t207 t210 bt211.1 bt211.2.1 bt211.2.2).bind fun bt216 => ((laws_scaleFits.f k2 bt216.1 bt216.2.1 bt216.2.2).bind fun bt221 => ((impl_Int64Times.f k2 x22_2 a0).bind fun bt223 => (if (bt223.2 != bt221.2) = true then (some false) else (if bt223.2 = true then (if bt223.1 = bt221.1 then (laws_FnScaleTens.l0 k2 a0 a1 (wrap64 (x22_2 + 1))) else (some false)) else (laws_FnScaleTens.l0 k2 a0 a1 (wrap64 (x22_2 + 1))))))))) = some r := H
              have A7 := Aside0.mk A70
              clear A70
              replace H := Option.bind_eq_some_iff.mp H
              obtain ⟨⟨t211, t212, t215⟩, A80, H⟩ := H
              replace H : ((spec_DecimalTimes.f k2 t206 t207 t210 t211 t212 t215).bind fun bt216 => ((laws_scaleFits.f k2 bt216.1 bt216.2.1 bt216.2.2).bind fun bt221 => ((impl_Int64Times.f k2 x22_2 a0).bind fun bt223 => (if (bt223.2 != bt221.2) = true then (some false) else (if bt223.2 = true then (if bt223.1 = bt221.1 then (laws_FnScaleTens.l0 k2 a0 a1 (wrap64 (x22_2 + 1))) else (some false)) else (laws_FnScaleTens.l0 k2 a0 a1 (wrap64 (x22_2 + 1)))))))) = some r := H
              have A8 := Aside0.mk A80
              clear A80
              replace H := Option.bind_eq_some_iff.mp H
              obtain ⟨⟨t216, t217, t220⟩, A90, H⟩ := H
              replace H : ((laws_scaleFits.f k2 t216 t217 t220).bind fun bt221 => ((impl_Int64Times.f k2 x22_2 a0).bind fun bt223 => (if (bt223.2 != bt221.2) = true then (some false) else (if bt223.2 = true then (if bt223.1 = bt221.1 then (laws_FnScaleTens.l0 k2 a0 a1 (wrap64 (x22_2 + 1))) else (some false)) else (laws_FnScaleTens.l0 k2 a0 a1 (wrap64 (x22_2 + 1))))))) = some r := H
              have A9 := Aside0.mk A90
              clear A90
              replace H := Option.bind_eq_some_iff.mp H
              obtain ⟨⟨t221, t222⟩, A100, H⟩ := H
              replace H : ((impl_Int64Times.f k2 x22_2 a0).bind fun bt223 => (if (bt223.2 != t222) = true then (some false) else (if bt223.2 = true then (if bt223.1 = t221 then (laws_FnScaleTens.l0 k2 a0 a1 (wrap64 (x22_2 + 1))) else (some false)) else (laws_FnScaleTens.l0 k2 a0 a1 (wrap64 (x22_2 + 1)))))) = some r := H
              have A10 := Aside0.mk A100
              clear A100
              replace H := Option.bind_eq_some_iff.mp H
              obtain ⟨⟨t223, t224⟩, A110, H⟩ := H
              replace H : (if (t224 != t222) = true then (some false) else (if t224 = true then (if t223 = t221 then (laws_FnScaleTens.l0 k2 a0 a1 (wrap64 (x22_2 + 1))) else (some false)) else (laws_FnScaleTens.l0 k2 a0 a1 (wrap64 (x22_2 + 1))))) = some r := H
              have A11 := Aside0.mk A110
              clear A110
              by_cases c12 : (t224 != t222) = true
              · rw [if_pos c12] at H
                have c12b0 : (t224 != t222) = true := c12
                (try (have c12b1 : decide (t224 = t222) = false := by simpa using c12))
                (try (have c12b2 : (t224 == t222) = false := by simpa using c12))
                (try (have c12b3 : ¬ (t224 = t222) := by simpa using c12))
                clear c12
                obtain rfl := Option.some.inj H
                go_wp2_with (first | ((with_reducible refine gate_callee (f := 10) rfl ?_); refine goesL_ (some 27) rfl rfl Try.func10 (by kernel_rfl) rfl #[.int .i64 a0, .int .i64 0] rfl (by (try simp only [List.map_toArray, List.map_cons, List.map_nil]); first | done | rfl | (simp only [List.length_drop, List.length_take]; rfl)) ?_; (with_reducible refine (spec_DecimalOf.calls k2 a0 0 t206 t207 t210 _ A7.out).mono ?_); rintro e w13 ⟨v208, rfl, ho0, hb⟩; refine ⟨_, rfl, ?_⟩; have n0_ := Aside0.mk (Kd.R_lower ho0 (below_size (by repeat (first | (with_reducible first | exact HB.out | apply below_alloc | apply pw_below_drewN | apply below_drew1) | exact HB.out)))); have n1_ := Aside0.mk (below_step (by repeat (first | (with_reducible first | exact HB.out | apply below_alloc | apply pw_below_drewN | apply below_drew1) | exact HB.out)) hb); clear HB; have HO209 := n0_; have HB := n1_; clear n0_ n1_; (try clear hb); (try clear hb2); (try clear hk); (try clear hi); (try clear ho0)) | ((with_reducible refine gate_callee (f := 10) rfl ?_); refine goesL_ (some 30) rfl rfl Try.func10 (by kernel_rfl) rfl #[.int .i64 1, .int .i64 (wrap64 (x22_2 + 1))] rfl (by (try simp only [List.map_toArray, List.map_cons, List.map_nil]); first | done | rfl | (simp only [List.length_drop, List.length_take]; rfl)) ?_; (with_reducible refine (spec_DecimalOf.calls k2 1 (wrap64 (x22_2 + 1)) t211 t212 t215 _ A8.out).mono ?_); rintro e w14 ⟨v213, rfl, ho0, hb⟩; refine ⟨_, rfl, ?_⟩; have n0_ := Aside0.mk (Kd.R_elder' (by (with_reducible repeat (first | apply Kd.R_alloc | apply Kd.R_drewN | apply Kd.R_drew)); exact HO209.out) (Kd.R_base ho0) hb); have n1_ := Aside0.mk (Kd.R_lower (Kd.R_new' ho0 (Kd.R_lt (by (with_reducible repeat (first | apply Kd.R_alloc | apply Kd.R_drewN | apply Kd.R_drew)); exact HO209.out))) (below_size (by repeat (first | (with_reducible first | exact HB.out | apply below_alloc | apply pw_below_drewN | apply below_drew1) | exact HB.out)))); have n2_ := Aside0.mk (below_step (by repeat (first | (with_reducible first | exact HB.out | apply below_alloc | apply pw_below_drewN | apply below_drew1) | exact HB.out)) hb); clear HO209; clear HB; have HO209 := n0_; have HO214 := n1_; have HB := n2_; clear n0_ n1_ n2_; (try clear hb); (try clear hb2); (try clear hk); (try clear hi); (try clear ho0); obtain ⟨Ao15, co15, eo15⟩ := Kd.R_slice HO209.out; subst eo15; obtain ⟨Ao16, co16, eo16⟩ := Kd.R_slice HO214.out; subst eo16) | ((with_reducible refine gate_callee (f := 14) rfl ?_); refine goesL_ (some 31) rfl rfl Try.func14 (by kernel_rfl) rfl #[.agg #[.bool t206, .slice Ao15 t207.length co15, .int .i64 t210], .agg #[.bool t211, .slice Ao16 t212.length co16, .int .i64 t215]] rfl (by (try simp only [List.map_toArray, List.map_cons, List.map_nil]); first | done | rfl | (simp only [List.length_drop, List.length_take]; rfl)) ?_; (with_reducible refine (spec_DecimalTimes.calls k2 t206 _ _ t207 t210 t211 _ _ t212 t215 t216 t217 t220 _ ?side1 ?side2 ?side3 ?side4 A9.out).mono ?_); (case side1 => repeat (first | exact (Kd.R_reads' HO209.out).2.2 | (with_reducible refine Kd.C_alloc ?_ _) | (with_reducible refine Kd.C_drewN ?_ _) | (with_reducible refine Kd.C_drew ?_))); (case side2 => exact (Kd.R_reads' HO209.out).2.1); (case side3 => repeat (first | exact (Kd.R_reads' HO214.out).2.2 | (with_reducible refine Kd.C_alloc ?_ _) | (with_reducible refine Kd.C_drewN ?_ _) | (with_reducible refine Kd.C_drew ?_))); (case side4 => exact (Kd.R_reads' HO214.out).2.1); rintro e w17 ⟨v218, rfl, ho0, hb⟩; refine ⟨_, rfl, ?_⟩; have n0_ := Aside0.mk (Kd.R_elder' (by (with_reducible repeat (first | apply Kd.R_alloc | apply Kd.R_drewN | apply Kd.R_drew)); exact HO209.out) (Kd.R_base ho0) hb); have n1_ := Aside0.mk (Kd.R_elder' (by (with_reducible repeat (first | apply Kd.R_alloc | apply Kd.R_drewN | apply Kd.R_drew)); exact HO214.out) (Kd.R_base ho0) hb); have n2_ := Aside0.mk (Kd.R_lower (Kd.R_new' (Kd.R_new' ho0 (Kd.R_lt (by (with_reducible repeat (first | apply Kd.R_alloc | apply Kd.R_drewN | apply Kd.R_drew)); exact HO209.out))) (Kd.R_lt (by (with_reducible repeat (first | apply Kd.R_alloc | apply Kd.R_drewN | apply Kd.R_drew)); exact HO214.out))) (below_size (by repeat (first | (with_reducible first | exact HB.out | apply below_alloc | apply pw_below_drewN | apply below_drew1) | exact HB.out)))); have n3_ := Aside0.mk (below_step (by repeat (first | (with_reducible first | exact HB.out | apply below_alloc | apply pw_below_drewN | apply below_drew1) | exact HB.out)) hb); clear HO209; clear HO214; clear HB; have HO209 := n0_; have HO214 := n1_; have HO219 := n2_; have HB := n3_; clear n0_ n1_ n2_ n3_; (try clear hb); (try clear hb2); (try clear hk); (try clear hi); (try clear ho0); obtain ⟨Ao18, co18, eo18⟩ := Kd.R_slice HO219.out; subst eo18) | ((with_reducible refine gate_callee (f := 11) rfl ?_); refine goesL_ (some 32) rfl rfl Try.func11 (by kernel_rfl) rfl #[.agg #[.bool t216, .slice Ao18 t217.length co18, .int .i64 t220]] rfl (by (try simp only [List.map_toArray, List.map_cons, List.map_nil]); first | done | rfl | (simp only [List.length_drop, List.length_take]; rfl)) ?_; (with_reducible refine (laws_scaleFits.calls k2 t216 _ _ t217 t220 t221 t222 _ ?side1 ?side2 A10.out).mono ?_); (case side1 => repeat (first | exact (Kd.R_reads' HO219.out).2.2 | (with_reducible refine Kd.C_alloc ?_ _) | (with_reducible refine Kd.C_drewN ?_ _) | (with_reducible refine Kd.C_drew ?_))); (case side2 => exact (Kd.R_reads' HO219.out).2.1); rintro e w19 ⟨rfl, hb⟩; refine ⟨_, rfl, ?_⟩; have n0_ := Aside0.mk (Kd.R_below (by (with_reducible repeat (first | apply Kd.R_alloc | apply Kd.R_drewN | apply Kd.R_drew)); exact HO209.out) hb); have n1_ := Aside0.mk (Kd.R_below (by (with_reducible repeat (first | apply Kd.R_alloc | apply Kd.R_drewN | apply Kd.R_drew)); exact HO214.out) hb); have n2_ := Aside0.mk (Kd.R_below (by (with_reducible repeat (first | apply Kd.R_alloc | apply Kd.R_drewN | apply Kd.R_drew)); exact HO219.out) hb); have n3_ := Aside0.mk (below_step (by repeat (first | (with_reducible first | exact HB.out | apply below_alloc | apply pw_below_drewN | apply below_drew1) | exact HB.out)) hb); clear HO209; clear HO214; clear HO219; clear HB; have HO209 := n0_; have HO214 := n1_; have HO219 := n2_; have HB := n3_; clear n0_ n1_ n2_ n3_; (try clear hb); (try clear hb2); (try clear hk); (try clear hi)) | ((with_reducible refine gate_callee (f := 15) rfl ?_); refine goesL_ (some 38) rfl rfl Try.func15 (by kernel_rfl) rfl #[.int .i64 x22_2, .int .i64 a0] rfl (by (try simp only [List.map_toArray, List.map_cons, List.map_nil]); first | done | rfl | (simp only [List.length_drop, List.length_take]; rfl)) ?_; (with_reducible refine (impl_Int64Times.calls k2 x22_2 a0 t223 t224 _ A11.out).mono ?_); rintro e w' ⟨rfl, ⟨nd, rfl⟩⟩; refine ⟨_, rfl, ?_⟩))
                go_ret
                exact ⟨by first | rfl | (simp [errW_none, errW_some] <;> rfl) | (simp [*, errW_none, errW_some] <;> rfl), by repeat (first | (with_reducible first | exact HB.out | apply below_alloc | apply pw_below_drewN | apply below_drew1) | exact HB.out)⟩
              · rw [if_neg c12] at H
                have c12b0 : (t224 != t222) = false := by simpa using c12
                (try (have c12b1 : decide (t224 = t222) = true := by simpa using c12))
                (try (have c12b2 : (t224 == t222) = true := by simpa using c12))
                clear c12
                by_cases c20 : t224 = true
                · subst c20
                  have H1 : (if t223 = t221 then (laws_FnScaleTens.l0 k2 a0 a1 (wrap64 (x22_2 + 1))) else (some false)) = some r := by rw [if_pos rfl] at H; exact H
                  clear H
                  have H := H1
                  clear H1
                  by_cases c21 : t223 = t221
                  · rw [if_pos c21] at H
                    have c21b0 : (t223 == t221) = true := beq_iff_eq.mpr c21
                    have c21b1 : (t223 != t221) = false := bne_eq_false_iff_eq.mpr c21
                    clear c21
                    have H' := Aside0.mk H
                    clear H
                    go_wp2_with (first | ((with_reducible refine gate_callee (f := 10) rfl ?_); refine goesL_ (some 27) rfl rfl Try.func10 (by kernel_rfl) rfl #[.int .i64 a0, .int .i64 0] rfl (by (try simp only [List.map_toArray, List.map_cons, List.map_nil]); first | done | rfl | (simp only [List.length_drop, List.length_take]; rfl)) ?_; (with_reducible refine (spec_DecimalOf.calls k2 a0 0 t206 t207 t210 _ A7.out).mono ?_); rintro e w22 ⟨v208, rfl, ho0, hb⟩; refine ⟨_, rfl, ?_⟩; have n0_ := Aside0.mk (Kd.R_lower ho0 (below_size (by repeat (first | (with_reducible first | exact HB.out | apply below_alloc | apply pw_below_drewN | apply below_drew1) | exact HB.out)))); have n1_ := Aside0.mk (below_step (by repeat (first | (with_reducible first | exact HB.out | apply below_alloc | apply pw_below_drewN | apply below_drew1) | exact HB.out)) hb); clear HB; have HO209 := n0_; have HB := n1_; clear n0_ n1_; (try clear hb); (try clear hb2); (try clear hk); (try clear hi); (try clear ho0)) | ((with_reducible refine gate_callee (f := 10) rfl ?_); refine goesL_ (some 30) rfl rfl Try.func10 (by kernel_rfl) rfl #[.int .i64 1, .int .i64 (wrap64 (x22_2 + 1))] rfl (by (try simp only [List.map_toArray, List.map_cons, List.map_nil]); first | done | rfl | (simp only [List.length_drop, List.length_take]; rfl)) ?_; (with_reducible refine (spec_DecimalOf.calls k2 1 (wrap64 (x22_2 + 1)) t211 t212 t215 _ A8.out).mono ?_); rintro e w23 ⟨v213, rfl, ho0, hb⟩; refine ⟨_, rfl, ?_⟩; have n0_ := Aside0.mk (Kd.R_elder' (by (with_reducible repeat (first | apply Kd.R_alloc | apply Kd.R_drewN | apply Kd.R_drew)); exact HO209.out) (Kd.R_base ho0) hb); have n1_ := Aside0.mk (Kd.R_lower (Kd.R_new' ho0 (Kd.R_lt (by (with_reducible repeat (first | apply Kd.R_alloc | apply Kd.R_drewN | apply Kd.R_drew)); exact HO209.out))) (below_size (by repeat (first | (with_reducible first | exact HB.out | apply below_alloc | apply pw_below_drewN | apply below_drew1) | exact HB.out)))); have n2_ := Aside0.mk (below_step (by repeat (first | (with_reducible first | exact HB.out | apply below_alloc | apply pw_below_drewN | apply below_drew1) | exact HB.out)) hb); clear HO209; clear HB; have HO209 := n0_; have HO214 := n1_; have HB := n2_; clear n0_ n1_ n2_; (try clear hb); (try clear hb2); (try clear hk); (try clear hi); (try clear ho0); obtain ⟨Ao24, co24, eo24⟩ := Kd.R_slice HO209.out; subst eo24; obtain ⟨Ao25, co25, eo25⟩ := Kd.R_slice HO214.out; subst eo25) | ((with_reducible refine gate_callee (f := 14) rfl ?_); refine goesL_ (some 31) rfl rfl Try.func14 (by kernel_rfl) rfl #[.agg #[.bool t206, .slice Ao24 t207.length co24, .int .i64 t210], .agg #[.bool t211, .slice Ao25 t212.length co25, .int .i64 t215]] rfl (by (try simp only [List.map_toArray, List.map_cons, List.map_nil]); first | done | rfl | (simp only [List.length_drop, List.length_take]; rfl)) ?_; (with_reducible refine (spec_DecimalTimes.calls k2 t206 _ _ t207 t210 t211 _ _ t212 t215 t216 t217 t220 _ ?side1 ?side2 ?side3 ?side4 A9.out).mono ?_); (case side1 => repeat (first | exact (Kd.R_reads' HO209.out).2.2 | (with_reducible refine Kd.C_alloc ?_ _) | (with_reducible refine Kd.C_drewN ?_ _) | (with_reducible refine Kd.C_drew ?_))); (case side2 => exact (Kd.R_reads' HO209.out).2.1); (case side3 => repeat (first | exact (Kd.R_reads' HO214.out).2.2 | (with_reducible refine Kd.C_alloc ?_ _) | (with_reducible refine Kd.C_drewN ?_ _) | (with_reducible refine Kd.C_drew ?_))); (case side4 => exact (Kd.R_reads' HO214.out).2.1); rintro e w26 ⟨v218, rfl, ho0, hb⟩; refine ⟨_, rfl, ?_⟩; have n0_ := Aside0.mk (Kd.R_elder' (by (with_reducible repeat (first | apply Kd.R_alloc | apply Kd.R_drewN | apply Kd.R_drew)); exact HO209.out) (Kd.R_base ho0) hb); have n1_ := Aside0.mk (Kd.R_elder' (by (with_reducible repeat (first | apply Kd.R_alloc | apply Kd.R_drewN | apply Kd.R_drew)); exact HO214.out) (Kd.R_base ho0) hb); have n2_ := Aside0.mk (Kd.R_lower (Kd.R_new' (Kd.R_new' ho0 (Kd.R_lt (by (with_reducible repeat (first | apply Kd.R_alloc | apply Kd.R_drewN | apply Kd.R_drew)); exact HO209.out))) (Kd.R_lt (by (with_reducible repeat (first | apply Kd.R_alloc | apply Kd.R_drewN | apply Kd.R_drew)); exact HO214.out))) (below_size (by repeat (first | (with_reducible first | exact HB.out | apply below_alloc | apply pw_below_drewN | apply below_drew1) | exact HB.out)))); have n3_ := Aside0.mk (below_step (by repeat (first | (with_reducible first | exact HB.out | apply below_alloc | apply pw_below_drewN | apply below_drew1) | exact HB.out)) hb); clear HO209; clear HO214; clear HB; have HO209 := n0_; have HO214 := n1_; have HO219 := n2_; have HB := n3_; clear n0_ n1_ n2_ n3_; (try clear hb); (try clear hb2); (try clear hk); (try clear hi); (try clear ho0); obtain ⟨Ao27, co27, eo27⟩ := Kd.R_slice HO219.out; subst eo27) | ((with_reducible refine gate_callee (f := 11) rfl ?_); refine goesL_ (some 32) rfl rfl Try.func11 (by kernel_rfl) rfl #[.agg #[.bool t216, .slice Ao27 t217.length co27, .int .i64 t220]] rfl (by (try simp only [List.map_toArray, List.map_cons, List.map_nil]); first | done | rfl | (simp only [List.length_drop, List.length_take]; rfl)) ?_; (with_reducible refine (laws_scaleFits.calls k2 t216 _ _ t217 t220 t221 t222 _ ?side1 ?side2 A10.out).mono ?_); (case side1 => repeat (first | exact (Kd.R_reads' HO219.out).2.2 | (with_reducible refine Kd.C_alloc ?_ _) | (with_reducible refine Kd.C_drewN ?_ _) | (with_reducible refine Kd.C_drew ?_))); (case side2 => exact (Kd.R_reads' HO219.out).2.1); rintro e w28 ⟨rfl, hb⟩; refine ⟨_, rfl, ?_⟩; have n0_ := Aside0.mk (Kd.R_below (by (with_reducible repeat (first | apply Kd.R_alloc | apply Kd.R_drewN | apply Kd.R_drew)); exact HO209.out) hb); have n1_ := Aside0.mk (Kd.R_below (by (with_reducible repeat (first | apply Kd.R_alloc | apply Kd.R_drewN | apply Kd.R_drew)); exact HO214.out) hb); have n2_ := Aside0.mk (Kd.R_below (by (with_reducible repeat (first | apply Kd.R_alloc | apply Kd.R_drewN | apply Kd.R_drew)); exact HO219.out) hb); have n3_ := Aside0.mk (below_step (by repeat (first | (with_reducible first | exact HB.out | apply below_alloc | apply pw_below_drewN | apply below_drew1) | exact HB.out)) hb); clear HO209; clear HO214; clear HO219; clear HB; have HO209 := n0_; have HO214 := n1_; have HO219 := n2_; have HB := n3_; clear n0_ n1_ n2_ n3_; (try clear hb); (try clear hb2); (try clear hk); (try clear hi)) | ((with_reducible refine gate_callee (f := 15) rfl ?_); refine goesL_ (some 38) rfl rfl Try.func15 (by kernel_rfl) rfl #[.int .i64 x22_2, .int .i64 a0] rfl (by (try simp only [List.map_toArray, List.map_cons, List.map_nil]); first | done | rfl | (simp only [List.length_drop, List.length_take]; rfl)) ?_; (with_reducible refine (impl_Int64Times.calls k2 x22_2 a0 t223 true _ A11.out).mono ?_); rintro e w' ⟨rfl, ⟨nd, rfl⟩⟩; refine ⟨_, rfl, ?_⟩))
                    go_roundg k2
                    case measure => have := HJ2.out; have := HK2.out; omega
                    case rel => exact ⟨(wrap64 (x22_2 + 1)), (by first | rfl | (simp; done) | (simp [*]; done)), H', ⟨by have := HJ2.out; have := HK2.out; omega⟩, ⟨by repeat (first | (with_reducible first | exact HB.out | apply below_alloc | apply pw_below_drewN | apply below_drew1) | exact HB.out)⟩⟩
                  · rw [if_neg c21] at H
                    have c21b0 : (t223 == t221) = false := beq_eq_false_iff_ne.mpr c21
                    have c21b1 : (t223 != t221) = true := bne_iff_ne.mpr c21
                    obtain rfl := Option.some.inj H
                    go_wp2_with (first | ((with_reducible refine gate_callee (f := 10) rfl ?_); refine goesL_ (some 27) rfl rfl Try.func10 (by kernel_rfl) rfl #[.int .i64 a0, .int .i64 0] rfl (by (try simp only [List.map_toArray, List.map_cons, List.map_nil]); first | done | rfl | (simp only [List.length_drop, List.length_take]; rfl)) ?_; (with_reducible refine (spec_DecimalOf.calls k2 a0 0 t206 t207 t210 _ A7.out).mono ?_); rintro e w29 ⟨v208, rfl, ho0, hb⟩; refine ⟨_, rfl, ?_⟩; have n0_ := Aside0.mk (Kd.R_lower ho0 (below_size (by repeat (first | (with_reducible first | exact HB.out | apply below_alloc | apply pw_below_drewN | apply below_drew1) | exact HB.out)))); have n1_ := Aside0.mk (below_step (by repeat (first | (with_reducible first | exact HB.out | apply below_alloc | apply pw_below_drewN | apply below_drew1) | exact HB.out)) hb); clear HB; have HO209 := n0_; have HB := n1_; clear n0_ n1_; (try clear hb); (try clear hb2); (try clear hk); (try clear hi); (try clear ho0)) | ((with_reducible refine gate_callee (f := 10) rfl ?_); refine goesL_ (some 30) rfl rfl Try.func10 (by kernel_rfl) rfl #[.int .i64 1, .int .i64 (wrap64 (x22_2 + 1))] rfl (by (try simp only [List.map_toArray, List.map_cons, List.map_nil]); first | done | rfl | (simp only [List.length_drop, List.length_take]; rfl)) ?_; (with_reducible refine (spec_DecimalOf.calls k2 1 (wrap64 (x22_2 + 1)) t211 t212 t215 _ A8.out).mono ?_); rintro e w30 ⟨v213, rfl, ho0, hb⟩; refine ⟨_, rfl, ?_⟩; have n0_ := Aside0.mk (Kd.R_elder' (by (with_reducible repeat (first | apply Kd.R_alloc | apply Kd.R_drewN | apply Kd.R_drew)); exact HO209.out) (Kd.R_base ho0) hb); have n1_ := Aside0.mk (Kd.R_lower (Kd.R_new' ho0 (Kd.R_lt (by (with_reducible repeat (first | apply Kd.R_alloc | apply Kd.R_drewN | apply Kd.R_drew)); exact HO209.out))) (below_size (by repeat (first | (with_reducible first | exact HB.out | apply below_alloc | apply pw_below_drewN | apply below_drew1) | exact HB.out)))); have n2_ := Aside0.mk (below_step (by repeat (first | (with_reducible first | exact HB.out | apply below_alloc | apply pw_below_drewN | apply below_drew1) | exact HB.out)) hb); clear HO209; clear HB; have HO209 := n0_; have HO214 := n1_; have HB := n2_; clear n0_ n1_ n2_; (try clear hb); (try clear hb2); (try clear hk); (try clear hi); (try clear ho0); obtain ⟨Ao31, co31, eo31⟩ := Kd.R_slice HO209.out; subst eo31; obtain ⟨Ao32, co32, eo32⟩ := Kd.R_slice HO214.out; subst eo32) | ((with_reducible refine gate_callee (f := 14) rfl ?_); refine goesL_ (some 31) rfl rfl Try.func14 (by kernel_rfl) rfl #[.agg #[.bool t206, .slice Ao31 t207.length co31, .int .i64 t210], .agg #[.bool t211, .slice Ao32 t212.length co32, .int .i64 t215]] rfl (by (try simp only [List.map_toArray, List.map_cons, List.map_nil]); first | done | rfl | (simp only [List.length_drop, List.length_take]; rfl)) ?_; (with_reducible refine (spec_DecimalTimes.calls k2 t206 _ _ t207 t210 t211 _ _ t212 t215 t216 t217 t220 _ ?side1 ?side2 ?side3 ?side4 A9.out).mono ?_); (case side1 => repeat (first | exact (Kd.R_reads' HO209.out).2.2 | (with_reducible refine Kd.C_alloc ?_ _) | (with_reducible refine Kd.C_drewN ?_ _) | (with_reducible refine Kd.C_drew ?_))); (case side2 => exact (Kd.R_reads' HO209.out).2.1); (case side3 => repeat (first | exact (Kd.R_reads' HO214.out).2.2 | (with_reducible refine Kd.C_alloc ?_ _) | (with_reducible refine Kd.C_drewN ?_ _) | (with_reducible refine Kd.C_drew ?_))); (case side4 => exact (Kd.R_reads' HO214.out).2.1); rintro e w33 ⟨v218, rfl, ho0, hb⟩; refine ⟨_, rfl, ?_⟩; have n0_ := Aside0.mk (Kd.R_elder' (by (with_reducible repeat (first | apply Kd.R_alloc | apply Kd.R_drewN | apply Kd.R_drew)); exact HO209.out) (Kd.R_base ho0) hb); have n1_ := Aside0.mk (Kd.R_elder' (by (with_reducible repeat (first | apply Kd.R_alloc | apply Kd.R_drewN | apply Kd.R_drew)); exact HO214.out) (Kd.R_base ho0) hb); have n2_ := Aside0.mk (Kd.R_lower (Kd.R_new' (Kd.R_new' ho0 (Kd.R_lt (by (with_reducible repeat (first | apply Kd.R_alloc | apply Kd.R_drewN | apply Kd.R_drew)); exact HO209.out))) (Kd.R_lt (by (with_reducible repeat (first | apply Kd.R_alloc | apply Kd.R_drewN | apply Kd.R_drew)); exact HO214.out))) (below_size (by repeat (first | (with_reducible first | exact HB.out | apply below_alloc | apply pw_below_drewN | apply below_drew1) | exact HB.out)))); have n3_ := Aside0.mk (below_step (by repeat (first | (with_reducible first | exact HB.out | apply below_alloc | apply pw_below_drewN | apply below_drew1) | exact HB.out)) hb); clear HO209; clear HO214; clear HB; have HO209 := n0_; have HO214 := n1_; have HO219 := n2_; have HB := n3_; clear n0_ n1_ n2_ n3_; (try clear hb); (try clear hb2); (try clear hk); (try clear hi); (try clear ho0); obtain ⟨Ao34, co34, eo34⟩ := Kd.R_slice HO219.out; subst eo34) | ((with_reducible refine gate_callee (f := 11) rfl ?_); refine goesL_ (some 32) rfl rfl Try.func11 (by kernel_rfl) rfl #[.agg #[.bool t216, .slice Ao34 t217.length co34, .int .i64 t220]] rfl (by (try simp only [List.map_toArray, List.map_cons, List.map_nil]); first | done | rfl | (simp only [List.length_drop, List.length_take]; rfl)) ?_; (with_reducible refine (laws_scaleFits.calls k2 t216 _ _ t217 t220 t221 t222 _ ?side1 ?side2 A10.out).mono ?_); (case side1 => repeat (first | exact (Kd.R_reads' HO219.out).2.2 | (with_reducible refine Kd.C_alloc ?_ _) | (with_reducible refine Kd.C_drewN ?_ _) | (with_reducible refine Kd.C_drew ?_))); (case side2 => exact (Kd.R_reads' HO219.out).2.1); rintro e w35 ⟨rfl, hb⟩; refine ⟨_, rfl, ?_⟩; have n0_ := Aside0.mk (Kd.R_below (by (with_reducible repeat (first | apply Kd.R_alloc | apply Kd.R_drewN | apply Kd.R_drew)); exact HO209.out) hb); have n1_ := Aside0.mk (Kd.R_below (by (with_reducible repeat (first | apply Kd.R_alloc | apply Kd.R_drewN | apply Kd.R_drew)); exact HO214.out) hb); have n2_ := Aside0.mk (Kd.R_below (by (with_reducible repeat (first | apply Kd.R_alloc | apply Kd.R_drewN | apply Kd.R_drew)); exact HO219.out) hb); have n3_ := Aside0.mk (below_step (by repeat (first | (with_reducible first | exact HB.out | apply below_alloc | apply pw_below_drewN | apply below_drew1) | exact HB.out)) hb); clear HO209; clear HO214; clear HO219; clear HB; have HO209 := n0_; have HO214 := n1_; have HO219 := n2_; have HB := n3_; clear n0_ n1_ n2_ n3_; (try clear hb); (try clear hb2); (try clear hk); (try clear hi)) | ((with_reducible refine gate_callee (f := 15) rfl ?_); refine goesL_ (some 38) rfl rfl Try.func15 (by kernel_rfl) rfl #[.int .i64 x22_2, .int .i64 a0] rfl (by (try simp only [List.map_toArray, List.map_cons, List.map_nil]); first | done | rfl | (simp only [List.length_drop, List.length_take]; rfl)) ?_; (with_reducible refine (impl_Int64Times.calls k2 x22_2 a0 t223 true _ A11.out).mono ?_); rintro e w' ⟨rfl, ⟨nd, rfl⟩⟩; refine ⟨_, rfl, ?_⟩))
                    go_ret
                    exact ⟨by first | rfl | (simp [errW_none, errW_some] <;> rfl) | (simp [*, errW_none, errW_some] <;> rfl), by repeat (first | (with_reducible first | exact HB.out | apply below_alloc | apply pw_below_drewN | apply below_drew1) | exact HB.out)⟩
                · replace c20 := Bool.eq_false_iff.mpr c20
                  subst c20
                  have H1 : (laws_FnScaleTens.l0 k2 a0 a1 (wrap64 (x22_2 + 1))) = some r := by rw [if_neg (show ¬ (false = true) by decide)] at H; exact H
                  clear H
                  have H := H1
                  clear H1
                  have H' := Aside0.mk H
                  clear H
                  go_wp2_with (first | ((with_reducible refine gate_callee (f := 10) rfl ?_); refine goesL_ (some 27) rfl rfl Try.func10 (by kernel_rfl) rfl #[.int .i64 a0, .int .i64 0] rfl (by (try simp only [List.map_toArray, List.map_cons, List.map_nil]); first | done | rfl | (simp only [List.length_drop, List.length_take]; rfl)) ?_; (with_reducible refine (spec_DecimalOf.calls k2 a0 0 t206 t207 t210 _ A7.out).mono ?_); rintro e w36 ⟨v208, rfl, ho0, hb⟩; refine ⟨_, rfl, ?_⟩; have n0_ := Aside0.mk (Kd.R_lower ho0 (below_size (by repeat (first | (with_reducible first | exact HB.out | apply below_alloc | apply pw_below_drewN | apply below_drew1) | exact HB.out)))); have n1_ := Aside0.mk (below_step (by repeat (first | (with_reducible first | exact HB.out | apply below_alloc | apply pw_below_drewN | apply below_drew1) | exact HB.out)) hb); clear HB; have HO209 := n0_; have HB := n1_; clear n0_ n1_; (try clear hb); (try clear hb2); (try clear hk); (try clear hi); (try clear ho0)) | ((with_reducible refine gate_callee (f := 10) rfl ?_); refine goesL_ (some 30) rfl rfl Try.func10 (by kernel_rfl) rfl #[.int .i64 1, .int .i64 (wrap64 (x22_2 + 1))] rfl (by (try simp only [List.map_toArray, List.map_cons, List.map_nil]); first | done | rfl | (simp only [List.length_drop, List.length_take]; rfl)) ?_; (with_reducible refine (spec_DecimalOf.calls k2 1 (wrap64 (x22_2 + 1)) t211 t212 t215 _ A8.out).mono ?_); rintro e w37 ⟨v213, rfl, ho0, hb⟩; refine ⟨_, rfl, ?_⟩; have n0_ := Aside0.mk (Kd.R_elder' (by (with_reducible repeat (first | apply Kd.R_alloc | apply Kd.R_drewN | apply Kd.R_drew)); exact HO209.out) (Kd.R_base ho0) hb); have n1_ := Aside0.mk (Kd.R_lower (Kd.R_new' ho0 (Kd.R_lt (by (with_reducible repeat (first | apply Kd.R_alloc | apply Kd.R_drewN | apply Kd.R_drew)); exact HO209.out))) (below_size (by repeat (first | (with_reducible first | exact HB.out | apply below_alloc | apply pw_below_drewN | apply below_drew1) | exact HB.out)))); have n2_ := Aside0.mk (below_step (by repeat (first | (with_reducible first | exact HB.out | apply below_alloc | apply pw_below_drewN | apply below_drew1) | exact HB.out)) hb); clear HO209; clear HB; have HO209 := n0_; have HO214 := n1_; have HB := n2_; clear n0_ n1_ n2_; (try clear hb); (try clear hb2); (try clear hk); (try clear hi); (try clear ho0); obtain ⟨Ao38, co38, eo38⟩ := Kd.R_slice HO209.out; subst eo38; obtain ⟨Ao39, co39, eo39⟩ := Kd.R_slice HO214.out; subst eo39) | ((with_reducible refine gate_callee (f := 14) rfl ?_); refine goesL_ (some 31) rfl rfl Try.func14 (by kernel_rfl) rfl #[.agg #[.bool t206, .slice Ao38 t207.length co38, .int .i64 t210], .agg #[.bool t211, .slice Ao39 t212.length co39, .int .i64 t215]] rfl (by (try simp only [List.map_toArray, List.map_cons, List.map_nil]); first | done | rfl | (simp only [List.length_drop, List.length_take]; rfl)) ?_; (with_reducible refine (spec_DecimalTimes.calls k2 t206 _ _ t207 t210 t211 _ _ t212 t215 t216 t217 t220 _ ?side1 ?side2 ?side3 ?side4 A9.out).mono ?_); (case side1 => repeat (first | exact (Kd.R_reads' HO209.out).2.2 | (with_reducible refine Kd.C_alloc ?_ _) | (with_reducible refine Kd.C_drewN ?_ _) | (with_reducible refine Kd.C_drew ?_))); (case side2 => exact (Kd.R_reads' HO209.out).2.1); (case side3 => repeat (first | exact (Kd.R_reads' HO214.out).2.2 | (with_reducible refine Kd.C_alloc ?_ _) | (with_reducible refine Kd.C_drewN ?_ _) | (with_reducible refine Kd.C_drew ?_))); (case side4 => exact (Kd.R_reads' HO214.out).2.1); rintro e w40 ⟨v218, rfl, ho0, hb⟩; refine ⟨_, rfl, ?_⟩; have n0_ := Aside0.mk (Kd.R_elder' (by (with_reducible repeat (first | apply Kd.R_alloc | apply Kd.R_drewN | apply Kd.R_drew)); exact HO209.out) (Kd.R_base ho0) hb); have n1_ := Aside0.mk (Kd.R_elder' (by (with_reducible repeat (first | apply Kd.R_alloc | apply Kd.R_drewN | apply Kd.R_drew)); exact HO214.out) (Kd.R_base ho0) hb); have n2_ := Aside0.mk (Kd.R_lower (Kd.R_new' (Kd.R_new' ho0 (Kd.R_lt (by (with_reducible repeat (first | apply Kd.R_alloc | apply Kd.R_drewN | apply Kd.R_drew)); exact HO209.out))) (Kd.R_lt (by (with_reducible repeat (first | apply Kd.R_alloc | apply Kd.R_drewN | apply Kd.R_drew)); exact HO214.out))) (below_size (by repeat (first | (with_reducible first | exact HB.out | apply below_alloc | apply pw_below_drewN | apply below_drew1) | exact HB.out)))); have n3_ := Aside0.mk (below_step (by repeat (first | (with_reducible first | exact HB.out | apply below_alloc | apply pw_below_drewN | apply below_drew1) | exact HB.out)) hb); clear HO209; clear HO214; clear HB; have HO209 := n0_; have HO214 := n1_; have HO219 := n2_; have HB := n3_; clear n0_ n1_ n2_ n3_; (try clear hb); (try clear hb2); (try clear hk); (try clear hi); (try clear ho0); obtain ⟨Ao41, co41, eo41⟩ := Kd.R_slice HO219.out; subst eo41) | ((with_reducible refine gate_callee (f := 11) rfl ?_); refine goesL_ (some 32) rfl rfl Try.func11 (by kernel_rfl) rfl #[.agg #[.bool t216, .slice Ao41 t217.length co41, .int .i64 t220]] rfl (by (try simp only [List.map_toArray, List.map_cons, List.map_nil]); first | done | rfl | (simp only [List.length_drop, List.length_take]; rfl)) ?_; (with_reducible refine (laws_scaleFits.calls k2 t216 _ _ t217 t220 t221 t222 _ ?side1 ?side2 A10.out).mono ?_); (case side1 => repeat (first | exact (Kd.R_reads' HO219.out).2.2 | (with_reducible refine Kd.C_alloc ?_ _) | (with_reducible refine Kd.C_drewN ?_ _) | (with_reducible refine Kd.C_drew ?_))); (case side2 => exact (Kd.R_reads' HO219.out).2.1); rintro e w42 ⟨rfl, hb⟩; refine ⟨_, rfl, ?_⟩; have n0_ := Aside0.mk (Kd.R_below (by (with_reducible repeat (first | apply Kd.R_alloc | apply Kd.R_drewN | apply Kd.R_drew)); exact HO209.out) hb); have n1_ := Aside0.mk (Kd.R_below (by (with_reducible repeat (first | apply Kd.R_alloc | apply Kd.R_drewN | apply Kd.R_drew)); exact HO214.out) hb); have n2_ := Aside0.mk (Kd.R_below (by (with_reducible repeat (first | apply Kd.R_alloc | apply Kd.R_drewN | apply Kd.R_drew)); exact HO219.out) hb); have n3_ := Aside0.mk (below_step (by repeat (first | (with_reducible first | exact HB.out | apply below_alloc | apply pw_below_drewN | apply below_drew1) | exact HB.out)) hb); clear HO209; clear HO214; clear HO219; clear HB; have HO209 := n0_; have HO214 := n1_; have HO219 := n2_; have HB := n3_; clear n0_ n1_ n2_ n3_; (try clear hb); (try clear hb2); (try clear hk); (try clear hi)) | ((with_reducible refine gate_callee (f := 15) rfl ?_); refine goesL_ (some 38) rfl rfl Try.func15 (by kernel_rfl) rfl #[.int .i64 x22_2, .int .i64 a0] rfl (by (try simp only [List.map_toArray, List.map_cons, List.map_nil]); first | done | rfl | (simp only [List.length_drop, List.length_take]; rfl)) ?_; (with_reducible refine (impl_Int64Times.calls k2 x22_2 a0 t223 false _ A11.out).mono ?_); rintro e w' ⟨rfl, ⟨nd, rfl⟩⟩; refine ⟨_, rfl, ?_⟩))
                  go_roundg k2
                  case measure => have := HJ2.out; have := HK2.out; omega
                  case rel => exact ⟨(wrap64 (x22_2 + 1)), (by first | rfl | (simp; done) | (simp [*]; done)), H', ⟨by have := HJ2.out; have := HK2.out; omega⟩, ⟨by repeat (first | (with_reducible first | exact HB.out | apply below_alloc | apply pw_below_drewN | apply below_drew1) | exact HB.out)⟩⟩
            · rw [if_neg c6] at H
              have c6b0 : decide (x22_2 < 3) = false := decide_eq_false c6
              clear c6
              replace H := Option.bind_eq_some_iff.mp H
              obtain ⟨⟨t225, t226, t229⟩, A430, H⟩ := H
              replace H : ((laws_scaleFits.f k2 t225 t226 t229).bind fun bt230 => ((impl_ScaleUp.f k2 a0 a1).bind fun bt232 => (if (bt232.2 != bt230.2) = true then (laws_FnScaleTens.j2 k2 a1 true) else (if bt232.2 = true then (laws_FnScaleTens.j2 k2 a1 (bt232.1 != bt230.1)) else (laws_FnScaleTens.j2 k2 a1 false))))) = some r := H
              have A43 := Aside0.mk A430
              clear A430
              replace H := Option.bind_eq_some_iff.mp H
              obtain ⟨⟨t230, t231⟩, A440, H⟩ := H
              replace H : ((impl_ScaleUp.f k2 a0 a1).bind fun bt232 => (if (bt232.2 != t231) = true then (laws_FnScaleTens.j2 k2 a1 true) else (if bt232.2 = true then (laws_FnScaleTens.j2 k2 a1 (bt232.1 != t230)) else (laws_FnScaleTens.j2 k2 a1 false)))) = some r := H
              have A44 := Aside0.mk A440
              clear A440
              replace H := Option.bind_eq_some_iff.mp H
              obtain ⟨⟨t232, t233⟩, A450, H⟩ := H
              replace H : (if (t233 != t231) = true then (laws_FnScaleTens.j2 k2 a1 true) else (if t233 = true then (laws_FnScaleTens.j2 k2 a1 (t232 != t230)) else (laws_FnScaleTens.j2 k2 a1 false))) = some r := H
              have A45 := Aside0.mk A450
              clear A450
              have HC46 := Aside0.mk H
              clear H
              go_upto_region 13 with (first | ((with_reducible refine gate_callee (f := 10) rfl ?_); refine goesL_ (some 56) rfl rfl Try.func10 (by kernel_rfl) rfl #[.int .i64 a0, .int .i64 a1] rfl (by (try simp only [List.map_toArray, List.map_cons, List.map_nil]); first | done | rfl | (simp only [List.length_drop, List.length_take]; rfl)) ?_; (with_reducible refine (spec_DecimalOf.calls k2 a0 a1 t225 t226 t229 _ A43.out).mono ?_); rintro e w47 ⟨v227, rfl, ho0, hb⟩; refine ⟨_, rfl, ?_⟩; have n0_ := Aside0.mk (Kd.R_lower ho0 (below_size (by repeat (first | (with_reducible first | exact HB.out | apply below_alloc | apply pw_below_drewN | apply below_drew1) | exact HB.out)))); have n1_ := Aside0.mk (below_step (by repeat (first | (with_reducible first | exact HB.out | apply below_alloc | apply pw_below_drewN | apply below_drew1) | exact HB.out)) hb); clear HB; have HO228 := n0_; have HB := n1_; clear n0_ n1_; (try clear hb); (try clear hb2); (try clear hk); (try clear hi); (try clear ho0); obtain ⟨Ao48, co48, eo48⟩ := Kd.R_slice HO228.out; subst eo48) | ((with_reducible refine gate_callee (f := 11) rfl ?_); refine goesL_ (some 57) rfl rfl Try.func11 (by kernel_rfl) rfl #[.agg #[.bool t225, .slice Ao48 t226.length co48, .int .i64 t229]] rfl (by (try simp only [List.map_toArray, List.map_cons, List.map_nil]); first | done | rfl | (simp only [List.length_drop, List.length_take]; rfl)) ?_; (with_reducible refine (laws_scaleFits.calls k2 t225 _ _ t226 t229 t230 t231 _ ?side1 ?side2 A44.out).mono ?_); (case side1 => repeat (first | exact (Kd.R_reads' HO228.out).2.2 | (with_reducible refine Kd.C_alloc ?_ _) | (with_reducible refine Kd.C_drewN ?_ _) | (with_reducible refine Kd.C_drew ?_))); (case side2 => exact (Kd.R_reads' HO228.out).2.1); rintro e w49 ⟨rfl, hb⟩; refine ⟨_, rfl, ?_⟩; have n0_ := Aside0.mk (Kd.R_below (by (with_reducible repeat (first | apply Kd.R_alloc | apply Kd.R_drewN | apply Kd.R_drew)); exact HO228.out) hb); have n1_ := Aside0.mk (below_step (by repeat (first | (with_reducible first | exact HB.out | apply below_alloc | apply pw_below_drewN | apply below_drew1) | exact HB.out)) hb); clear HO228; clear HB; have HO228 := n0_; have HB := n1_; clear n0_ n1_; (try clear hb); (try clear hb2); (try clear hk); (try clear hi)) | ((with_reducible refine gate_callee (f := 16) rfl ?_); refine goesL_ (some 63) rfl rfl Try.func16 (by kernel_rfl) rfl #[.int .i64 a0, .int .i64 a1] rfl (by (try simp only [List.map_toArray, List.map_cons, List.map_nil]); first | done | rfl | (simp only [List.length_drop, List.length_take]; rfl)) ?_; (with_reducible refine (impl_ScaleUp.calls k2 a0 a1 t232 t233 _ A45.out).mono ?_); rintro e w' ⟨rfl, ⟨nd, rfl⟩⟩; refine ⟨_, rfl, ?_⟩))
              (try simp only [Act.put, List.setIfInBounds_toArray, List.set_cons_zero, List.set_cons_succ])
              go_cut [76] (fun v76 wc => ∃ (kq : Nat) (x76_45 : Bool), v76 = .bool x76_45 ∧ Aside0 (laws_FnScaleTens.j2 kq a1 x76_45 = some r) ∧ Aside0 (kq ≤ k2) ∧ Aside0 (Below w.heap.size w wc))
              case first =>
                have H := HC46.out
                clear HC46
                by_cases c50 : (t233 != t231) = true
                · rw [if_pos c50] at H
                  have c50b0 : (t233 != t231) = true := c50
                  (try (have c50b1 : decide (t233 = t231) = false := by simpa using c50))
                  (try (have c50b2 : (t233 == t231) = false := by simpa using c50))
                  (try (have c50b3 : ¬ (t233 = t231) := by simpa using c50))
                  clear c50
                  (first | rw [c50b0] | (simp only [i64_w, i32_w]; rw [c50b0]) | skip)
                  have H' := Aside0.mk H
                  clear H
                  go_wp2
                  go_meet
                  case rel => exact ⟨_, (true), (by first | rfl | (simp; done) | (simp [*]; done)), H', ⟨by have := HJ2.out; have := HK2.out; first | omega | exact Nat.le_refl _⟩, ⟨by repeat (first | (with_reducible first | exact HB.out | apply below_alloc | apply pw_below_drewN | apply below_drew1) | exact HB.out)⟩⟩
                · rw [if_neg c50] at H
                  have c50b0 : (t233 != t231) = false := by simpa using c50
                  (try (have c50b1 : decide (t233 = t231) = true := by simpa using c50))
                  (try (have c50b2 : (t233 == t231) = true := by simpa using c50))
                  clear c50
                  (first | rw [c50b0] | (simp only [i64_w, i32_w]; rw [c50b0]) | skip)
                  by_cases c51 : t233 = true
                  · subst c51
                    have H1 : (laws_FnScaleTens.j2 k2 a1 (t232 != t230)) = some r := by rw [if_pos rfl] at H; exact H
                    clear H
                    have H := H1
                    clear H1
                    have H' := Aside0.mk H
                    clear H
                    go_wp2
                    go_meet
                    case rel => exact ⟨_, ((t232 != t230)), (by first | rfl | (simp; done) | (simp [*]; done)), H', ⟨by have := HJ2.out; have := HK2.out; first | omega | exact Nat.le_refl _⟩, ⟨by repeat (first | (with_reducible first | exact HB.out | apply below_alloc | apply pw_below_drewN | apply below_drew1) | exact HB.out)⟩⟩
                  · replace c51 := Bool.eq_false_iff.mpr c51
                    subst c51
                    have H1 : (laws_FnScaleTens.j2 k2 a1 false) = some r := by rw [if_neg (show ¬ (false = true) by decide)] at H; exact H
                    clear H
                    have H := H1
                    clear H1
                    have H' := Aside0.mk H
                    clear H
                    go_wp2
                    go_meet
                    case rel => exact ⟨_, (false), (by first | rfl | (simp; done) | (simp [*]; done)), H', ⟨by have := HJ2.out; have := HK2.out; first | omega | exact Nat.le_refl _⟩, ⟨by repeat (first | (with_reducible first | exact HB.out | apply below_alloc | apply pw_below_drewN | apply below_drew1) | exact HB.out)⟩⟩
              case rest =>
                clear HC46
                try clear c1
                try clear c2
                try clear p2
                try clear c4
                try clear c4b0
                try clear c5
                try clear c6
                try clear c6b0
                try clear p6
                try clear c10
                try clear c11
                try clear c12
                try clear c12b0
                try clear c12b1
                try clear c12b2
                try clear c14
                try clear c15
                try clear c16
                try clear c20
                try clear c21
                try clear c21b0
                try clear c21b1
                try clear c50
                try clear c50b0
                try clear c50b1
                try clear c50b2
                try clear c51
                try clear p2
                obtain ⟨kq, x76_45, rfl, HA, HJ45, HB⟩ := hcut
                cases kq with
                | zero => exact absurd HA.out (by simp [laws_FnScaleTens.j2])
                | succ kj45 =>
                  have H := HA.out
                  clear HA
                  simp only [laws_FnScaleTens.j2] at H
                  by_cases c52 : x76_45 = true
                  · subst c52
                    have H1 : (some false) = some r := by rw [if_pos rfl] at H; exact H
                    clear H
                    have H := H1
                    clear H1
                    obtain rfl := Option.some.inj H
                    go_wp2
                    go_ret
                    exact ⟨by first | rfl | (simp [errW_none, errW_some] <;> rfl) | (simp [*, errW_none, errW_some] <;> rfl), by repeat (first | (with_reducible first | exact HB.out | apply below_alloc | apply pw_below_drewN | apply below_drew1) | exact HB.out)⟩
                  · replace c52 := Bool.eq_false_iff.mpr c52
                    subst c52
                    have H1 : ((spec_DecimalOf.f kj45 1 a1).bind fun bt234 => ((laws_scaleFits.f kj45 bt234.1 bt234.2.1 bt234.2.2).bind fun bt239 => (if a1 > 18 then ((impl_Power10.f 3).bind fun t241 => (some (t241 == 1000))) else ((impl_Power10.f a1).bind fun t242 => (if t242 = bt239.1 then ((impl_Power10.f 3).bind fun t243 => (some (t243 == 1000))) else (some false)))))) = some r := by rw [if_neg (show ¬ (false = true) by decide)] at H; exact H
                    clear H
                    have H := H1
                    clear H1
                    replace H := Option.bind_eq_some_iff.mp H
                    obtain ⟨⟨t234, t235, t238⟩, A530, H⟩ := H
                    replace H : ((laws_scaleFits.f kj45 t234 t235 t238).bind fun bt239 => (if a1 > 18 then ((impl_Power10.f 3).bind fun t241 => (some (t241 == 1000))) else ((impl_Power10.f a1).bind fun t242 => (if t242 = bt239.1 then ((impl_Power10.f 3).bind fun t243 => (some (t243 == 1000))) else (some false))))) = some r := H
                    have A53 := Aside0.mk A530
                    clear A530
                    replace H := Option.bind_eq_some_iff.mp H
                    obtain ⟨⟨t239, t240⟩, A540, H⟩ := H
                    replace H : (if a1 > 18 then ((impl_Power10.f 3).bind fun t241 => (some (t241 == 1000))) else ((impl_Power10.f a1).bind fun t242 => (if t242 = t239 then ((impl_Power10.f 3).bind fun t243 => (some (t243 == 1000))) else (some false)))) = some r := H
                    have A54 := Aside0.mk A540
                    clear A540
                    by_cases c55 : a1 > 18
                    · rw [if_pos c55] at H
                      have c55b0 : decide (18 < a1) = true := decide_eq_true c55
                      clear c55
                      replace H := Option.bind_eq_some_iff.mp H
                      obtain ⟨t241, A560, H⟩ := H
                      replace H : (some (t241 == 1000)) = some r := H
                      have A56 := Aside0.mk A560
                      clear A560
                      obtain rfl := Option.some.inj H
                      go_wp2_with (first | ((with_reducible refine gate_callee (f := 10) rfl ?_); refine goesL_ (some 79) rfl rfl Try.func10 (by kernel_rfl) rfl #[.int .i64 1, .int .i64 a1] rfl (by (try simp only [List.map_toArray, List.map_cons, List.map_nil]); first | done | rfl | (simp only [List.length_drop, List.length_take]; rfl)) ?_; (with_reducible refine (spec_DecimalOf.calls kj45 1 a1 t234 t235 t238 _ A53.out).mono ?_); rintro e w57 ⟨v236, rfl, ho0, hb⟩; refine ⟨_, rfl, ?_⟩; have n0_ := Aside0.mk (Kd.R_lower ho0 (below_size (by repeat (first | (with_reducible first | exact HB.out | apply below_alloc | apply pw_below_drewN | apply below_drew1) | exact HB.out)))); have n1_ := Aside0.mk (below_step (by repeat (first | (with_reducible first | exact HB.out | apply below_alloc | apply pw_below_drewN | apply below_drew1) | exact HB.out)) hb); clear HB; have HO237 := n0_; have HB := n1_; clear n0_ n1_; (try clear hb); (try clear hb2); (try clear hk); (try clear hi); (try clear ho0); obtain ⟨Ao58, co58, eo58⟩ := Kd.R_slice HO237.out; subst eo58) | ((with_reducible refine gate_callee (f := 11) rfl ?_); refine goesL_ (some 80) rfl rfl Try.func11 (by kernel_rfl) rfl #[.agg #[.bool t234, .slice Ao58 t235.length co58, .int .i64 t238]] rfl (by (try simp only [List.map_toArray, List.map_cons, List.map_nil]); first | done | rfl | (simp only [List.length_drop, List.length_take]; rfl)) ?_; (with_reducible refine (laws_scaleFits.calls kj45 t234 _ _ t235 t238 t239 t240 _ ?side1 ?side2 A54.out).mono ?_); (case side1 => repeat (first | exact (Kd.R_reads' HO237.out).2.2 | (with_reducible refine Kd.C_alloc ?_ _) | (with_reducible refine Kd.C_drewN ?_ _) | (with_reducible refine Kd.C_drew ?_))); (case side2 => exact (Kd.R_reads' HO237.out).2.1); rintro e w59 ⟨rfl, hb⟩; refine ⟨_, rfl, ?_⟩; have n0_ := Aside0.mk (Kd.R_below (by (with_reducible repeat (first | apply Kd.R_alloc | apply Kd.R_drewN | apply Kd.R_drew)); exact HO237.out) hb); have n1_ := Aside0.mk (below_step (by repeat (first | (with_reducible first | exact HB.out | apply below_alloc | apply pw_below_drewN | apply below_drew1) | exact HB.out)) hb); clear HO237; clear HB; have HO237 := n0_; have HB := n1_; clear n0_ n1_; (try clear hb); (try clear hb2); (try clear hk); (try clear hi)) | (go_at_call 17; (with_reducible refine (impl_Power10.calls 3 t241 _ A56.out).mono ?_); rintro e w' ⟨rfl, ⟨nd, rfl⟩⟩))
                      go_ret
                      exact ⟨by first | rfl | (simp [errW_none, errW_some] <;> rfl) | (simp [*, errW_none, errW_some] <;> rfl), by repeat (first | (with_reducible first | exact HB.out | apply below_alloc | apply pw_below_drewN | apply below_drew1) | exact HB.out)⟩
                    · rw [if_neg c55] at H
                      have c55b0 : decide (18 < a1) = false := decide_eq_false c55
                      clear c55
                      replace H := Option.bind_eq_some_iff.mp H
                      obtain ⟨t242, A600, H⟩ := H
                      replace H : (if t242 = t239 then ((impl_Power10.f 3).bind fun t243 => (some (t243 == 1000))) else (some false)) = some r := H
                      have A60 := Aside0.mk A600
                      clear A600
                      by_cases c61 : t242 = t239
                      · rw [if_pos c61] at H
                        have c61b0 : (t242 == t239) = true := beq_iff_eq.mpr c61
                        have c61b1 : (t242 != t239) = false := bne_eq_false_iff_eq.mpr c61
                        clear c61
                        replace H := Option.bind_eq_some_iff.mp H
                        obtain ⟨t243, A620, H⟩ := H
                        replace H : (some (t243 == 1000)) = some r := H
                        have A62 := Aside0.mk A620
                        clear A620
                        obtain rfl := Option.some.inj H
                        go_wp2_with (first | ((with_reducible refine gate_callee (f := 10) rfl ?_); refine goesL_ (some 79) rfl rfl Try.func10 (by kernel_rfl) rfl #[.int .i64 1, .int .i64 a1] rfl (by (try simp only [List.map_toArray, List.map_cons, List.map_nil]); first | done | rfl | (simp only [List.length_drop, List.length_take]; rfl)) ?_; (with_reducible refine (spec_DecimalOf.calls kj45 1 a1 t234 t235 t238 _ A53.out).mono ?_); rintro e w63 ⟨v236, rfl, ho0, hb⟩; refine ⟨_, rfl, ?_⟩; have n0_ := Aside0.mk (Kd.R_lower ho0 (below_size (by repeat (first | (with_reducible first | exact HB.out | apply below_alloc | apply pw_below_drewN | apply below_drew1) | exact HB.out)))); have n1_ := Aside0.mk (below_step (by repeat (first | (with_reducible first | exact HB.out | apply below_alloc | apply pw_below_drewN | apply below_drew1) | exact HB.out)) hb); clear HB; have HO237 := n0_; have HB := n1_; clear n0_ n1_; (try clear hb); (try clear hb2); (try clear hk); (try clear hi); (try clear ho0); obtain ⟨Ao64, co64, eo64⟩ := Kd.R_slice HO237.out; subst eo64) | ((with_reducible refine gate_callee (f := 11) rfl ?_); refine goesL_ (some 80) rfl rfl Try.func11 (by kernel_rfl) rfl #[.agg #[.bool t234, .slice Ao64 t235.length co64, .int .i64 t238]] rfl (by (try simp only [List.map_toArray, List.map_cons, List.map_nil]); first | done | rfl | (simp only [List.length_drop, List.length_take]; rfl)) ?_; (with_reducible refine (laws_scaleFits.calls kj45 t234 _ _ t235 t238 t239 t240 _ ?side1 ?side2 A54.out).mono ?_); (case side1 => repeat (first | exact (Kd.R_reads' HO237.out).2.2 | (with_reducible refine Kd.C_alloc ?_ _) | (with_reducible refine Kd.C_drewN ?_ _) | (with_reducible refine Kd.C_drew ?_))); (case side2 => exact (Kd.R_reads' HO237.out).2.1); rintro e w65 ⟨rfl, hb⟩; refine ⟨_, rfl, ?_⟩; have n0_ := Aside0.mk (Kd.R_below (by (with_reducible repeat (first | apply Kd.R_alloc | apply Kd.R_drewN | apply Kd.R_drew)); exact HO237.out) hb); have n1_ := Aside0.mk (below_step (by repeat (first | (with_reducible first | exact HB.out | apply below_alloc | apply pw_below_drewN | apply below_drew1) | exact HB.out)) hb); clear HO237; clear HB; have HO237 := n0_; have HB := n1_; clear n0_ n1_; (try clear hb); (try clear hb2); (try clear hk); (try clear hi)) | (go_at_call 17; (with_reducible refine (impl_Power10.calls a1 t242 _ A60.out).mono ?_); rintro e w' ⟨rfl, ⟨nd, rfl⟩⟩) | (go_at_call 17; (with_reducible refine (impl_Power10.calls 3 t243 _ A62.out).mono ?_); rintro e w' ⟨rfl, ⟨nd, rfl⟩⟩))
                        go_ret
                        exact ⟨by first | rfl | (simp [errW_none, errW_some] <;> rfl) | (simp [*, errW_none, errW_some] <;> rfl), by repeat (first | (with_reducible first | exact HB.out | apply below_alloc | apply pw_below_drewN | apply below_drew1) | exact HB.out)⟩
                      · rw [if_neg c61] at H
                        have c61b0 : (t242 == t239) = false := beq_eq_false_iff_ne.mpr c61
                        have c61b1 : (t242 != t239) = true := bne_iff_ne.mpr c61
                        obtain rfl := Option.some.inj H
                        go_wp2_with (first | ((with_reducible refine gate_callee (f := 10) rfl ?_); refine goesL_ (some 79) rfl rfl Try.func10 (by kernel_rfl) rfl #[.int .i64 1, .int .i64 a1] rfl (by (try simp only [List.map_toArray, List.map_cons, List.map_nil]); first | done | rfl | (simp only [List.length_drop, List.length_take]; rfl)) ?_; (with_reducible refine (spec_DecimalOf.calls kj45 1 a1 t234 t235 t238 _ A53.out).mono ?_); rintro e w66 ⟨v236, rfl, ho0, hb⟩; refine ⟨_, rfl, ?_⟩; have n0_ := Aside0.mk (Kd.R_lower ho0 (below_size (by repeat (first | (with_reducible first | exact HB.out | apply below_alloc | apply pw_below_drewN | apply below_drew1) | exact HB.out)))); have n1_ := Aside0.mk (below_step (by repeat (first | (with_reducible first | exact HB.out | apply below_alloc | apply pw_below_drewN | apply below_drew1) | exact HB.out)) hb); clear HB; have HO237 := n0_; have HB := n1_; clear n0_ n1_; (try clear hb); (try clear hb2); (try clear hk); (try clear hi); (try clear ho0); obtain ⟨Ao67, co67, eo67⟩ := Kd.R_slice HO237.out; subst eo67) | ((with_reducible refine gate_callee (f := 11) rfl ?_); refine goesL_ (some 80) rfl rfl Try.func11 (by kernel_rfl) rfl #[.agg #[.bool t234, .slice Ao67 t235.length co67, .int .i64 t238]] rfl (by (try simp only [List.map_toArray, List.map_cons, List.map_nil]); first | done | rfl | (simp only [List.length_drop, List.length_take]; rfl)) ?_; (with_reducible refine (laws_scaleFits.calls kj45 t234 _ _ t235 t238 t239 t240 _ ?side1 ?side2 A54.out).mono ?_); (case side1 => repeat (first | exact (Kd.R_reads' HO237.out).2.2 | (with_reducible refine Kd.C_alloc ?_ _) | (with_reducible refine Kd.C_drewN ?_ _) | (with_reducible refine Kd.C_drew ?_))); (case side2 => exact (Kd.R_reads' HO237.out).2.1); rintro e w68 ⟨rfl, hb⟩; refine ⟨_, rfl, ?_⟩; have n0_ := Aside0.mk (Kd.R_below (by (with_reducible repeat (first | apply Kd.R_alloc | apply Kd.R_drewN | apply Kd.R_drew)); exact HO237.out) hb); have n1_ := Aside0.mk (below_step (by repeat (first | (with_reducible first | exact HB.out | apply below_alloc | apply pw_below_drewN | apply below_drew1) | exact HB.out)) hb); clear HO237; clear HB; have HO237 := n0_; have HB := n1_; clear n0_ n1_; (try clear hb); (try clear hb2); (try clear hk); (try clear hi)) | (go_at_call 17; (with_reducible refine (impl_Power10.calls a1 t242 _ A60.out).mono ?_); rintro e w' ⟨rfl, ⟨nd, rfl⟩⟩))
                        go_ret
                        exact ⟨by first | rfl | (simp [errW_none, errW_some] <;> rfl) | (simp [*, errW_none, errW_some] <;> rfl), by repeat (first | (with_reducible first | exact HB.out | apply below_alloc | apply pw_below_drewN | apply below_drew1) | exact HB.out)⟩

/-- THE ONE PURE STATEMENT of laws_FnScaleTens: yours. -/
def laws_FnScaleTens.Pure : Prop := ∀ (a0 : Int) (a1 : Int), (Lit.int .i64 a0).wf = true → (Lit.int .i64 a1).wf = true → ∃ k, laws_FnScaleTens.f k a0 a1 = some true
theorem laws_FnScaleTens.walk (P : laws_FnScaleTens.Pure) (a0 : Int) (a1 : Int) (w : World) (w0 : (Lit.int .i64 a0).wf = true) (w1 : (Lit.int .i64 a1).wf = true) :
    Calls Try.prog 5 #[.int .i64 a0, .int .i64 a1] w fun e w' => e = .returned (.bool true) ∧ Below w.heap.size w w' := by
  obtain ⟨k, h⟩ := P a0 a1 w0 w1
  refine (laws_FnScaleTens.calls k a0 a1 true w h).mono ?_
  rintro e w' ⟨rfl, hd⟩
  exact ⟨rfl, hd⟩

end Go.Proofs.Ytpchihkegmihiaa.PFnScaleTens
