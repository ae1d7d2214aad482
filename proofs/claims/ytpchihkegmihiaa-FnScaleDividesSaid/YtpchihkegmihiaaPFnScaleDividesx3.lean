-- PRINTED BY print.sh 35421559b90ae4d0a3588c463048766b98c2df88dd9212a6774a882060cdf62d: not written by this session
import Derived.Test.YtpchihkegmihiaaPFnScaleDividesx0
import Derived.Test.YtpchihkegmihiaaPFnScaleDividesx1
import Derived.Test.YtpchihkegmihiaaPFnScaleDividesx2
namespace Go.Proofs.Ytpchihkegmihiaa.PFnScaleDivides
open Go.RowKit Go.Proofs.YtpchihkegmihiaaW.PrintWords Go.Proofs.YtpchihkegmihiaaW.PrintLast Go.Proofs.YtpchihkegmihiaaW.PrintMore
attribute [local go_sem] max2_int min2_int max_two min_two max_three min_three max_four min_four   -- for this text's walks alone
set_option linter.unusedVariables false
set_option linter.unusedSimpArgs false

/-! ### laws_FnScaleDivides: function 4 -/
def laws_FnScaleDivides.j0 : Nat → Int → Int → Bool → Option (Bool)
  | 0, _, _, _ => none
  | k + 1, x0, x1, x18 => if x18 = true then (some true) else ((impl_ScaleDivide.f x0 x1).bind fun bt163 => (if bt163.2.2 = true then ((spec_DecimalOf.f k 1 x1).bind fun bt166 => ((laws_scaleFits.f k bt166.1 bt166.2.1 bt166.2.2).bind fun bt171 => ((impl_ScaleDivide.f 25 1).bind fun bt173 => (if bt171.2 = true then (if bt171.1 = 0 then (none) else (if bt163.1 = (wrap64 (Int.tdiv x0 bt171.1)) then (if bt163.2.1 = (Int.tmod x0 bt171.1) then (if bt173.2.2 = true then (if bt173.1 = 2 then (some (bt173.2.1 == 5)) else (some false)) else (some false)) else (some false)) else (some false))) else (some false))))) else (some (decide (x1 > 17)))))
def laws_FnScaleDivides.f (k : Nat) (a0 : Int) (a1 : Int) : Option (Bool) := if a1 < 0 then (laws_FnScaleDivides.j0 k a0 a1 true) else (laws_FnScaleDivides.j0 k a0 a1 (decide (a1 > 500)))
theorem laws_FnScaleDivides.mono_l : ∀ k, (∀ y0 y1 y2, LeO (laws_FnScaleDivides.j0 k y0 y1 y2) (laws_FnScaleDivides.j0 (k + 1) y0 y1 y2))
  | 0 => fun _ _ _ r h => by simp [laws_FnScaleDivides.j0] at h
  | k + 1 => by
    have ih0 := laws_FnScaleDivides.mono_l k
    · intro y0 y1 y2
      unfold laws_FnScaleDivides.j0
      repeat' first
      | (with_reducible exact ih0 _ _ _)
      | (with_reducible exact laws_scaleFits.mono _ _ _ _)
      | (with_reducible exact spec_DecimalOf.mono _ _ _)
      | (with_reducible exact LeO.refl _)
      | (with_reducible exact LeO.none _)
      | (with_reducible refine LeO.ite ?_ ?_)
      | (with_reducible refine LeO.bind ?_ (fun _ => ?_))
      | exact ih0 _ _ _
      | exact laws_scaleFits.mono _ _ _ _
      | exact spec_DecimalOf.mono _ _ _
      | exact LeO.none _
      | refine LeO.ite ?_ ?_
      | refine LeO.bind ?_ (fun _ => ?_)
theorem laws_FnScaleDivides.mono : ∀ a0 a1 k, LeO (laws_FnScaleDivides.f k a0 a1) (laws_FnScaleDivides.f (k + 1) a0 a1) := by
  intro a0 a1 k
  have ih0 := laws_FnScaleDivides.mono_l k
  unfold laws_FnScaleDivides.f
  repeat' first
      | (with_reducible exact ih0 _ _ _)
      | (with_reducible exact laws_scaleFits.mono _ _ _ _)
      | (with_reducible exact spec_DecimalOf.mono _ _ _)
      | (with_reducible exact LeO.refl _)
      | (with_reducible exact LeO.none _)
      | (with_reducible refine LeO.ite ?_ ?_)
      | (with_reducible refine LeO.bind ?_ (fun _ => ?_))
      | exact ih0 _ _ _
      | exact laws_scaleFits.mono _ _ _ _
      | exact spec_DecimalOf.mono _ _ _
      | exact LeO.none _
      | refine LeO.ite ?_ ?_
      | refine LeO.bind ?_ (fun _ => ?_)
set_option maxHeartbeats 8000000 in
set_option maxRecDepth 100000 in
theorem laws_FnScaleDivides.calls (k : Nat) (a0 : Int) (a1 : Int) (r : Bool) (w : World) (h : laws_FnScaleDivides.f k a0 a1 = some r) :
    Calls Try.prog 4 #[.int .i64 a0, .int .i64 a1] w fun e w' => e = .returned (.bool r) ∧ Below w.heap.size w w' := by
  have HB := Aside0.mk (Below.refl w.heap.size w)
  have H : (if a1 < 0 then (laws_FnScaleDivides.j0 k a0 a1 true) else (laws_FnScaleDivides.j0 k a0 a1 (decide (a1 > 500)))) = some r := h
  clear h
  have HC3 := Aside0.mk H
  clear H
  go_enter Try.func4, Try.ntmps4
  go_upto_region 1 with (fail)
  go_cut [18] (fun v18 wc => ∃ (kq : Nat) (x18_2 : Bool), v18 = .bool x18_2 ∧ Aside0 (laws_FnScaleDivides.j0 kq a0 a1 x18_2 = some r) ∧ Aside0 (kq ≤ k) ∧ Aside0 (Below w.heap.size w wc))
  case first =>
    have H := HC3.out
    clear HC3
    by_cases c4 : a1 < 0
    · rw [if_pos c4] at H
      have c4b0 : decide (a1 < 0) = true := decide_eq_true c4
      clear c4
      (first | rw [c4b0] | (simp only [i64_w, i32_w]; rw [c4b0]) | skip)
      have H' := Aside0.mk H
      clear H
      go_wp2
      go_meet
      case rel => exact ⟨_, (true), (by first | rfl | (simp; done) | (simp [*]; done)), H', ⟨by first | omega | exact Nat.le_refl _⟩, ⟨by repeat (first | (with_reducible first | exact HB.out | apply below_alloc | apply pw_below_drewN | apply below_drew1) | exact HB.out)⟩⟩
    · rw [if_neg c4] at H
      have c4b0 : decide (a1 < 0) = false := decide_eq_false c4
      clear c4
      (first | rw [c4b0] | (simp only [i64_w, i32_w]; rw [c4b0]) | skip)
      have H' := Aside0.mk H
      clear H
      go_wp2
      go_meet
      case rel => exact ⟨_, (decide (a1 > 500)), (by first | rfl | (simp; done) | (simp [*]; done)), H', ⟨by first | omega | exact Nat.le_refl _⟩, ⟨by repeat (first | (with_reducible first | exact HB.out | apply below_alloc | apply pw_below_drewN | apply below_drew1) | exact HB.out)⟩⟩
  case rest =>
    clear HC3
    try clear p2
    try clear c4
    try clear c4b0
    obtain ⟨kq, x18_2, rfl, HA, HJ2, HB⟩ := hcut
    cases kq with
    | zero => exact absurd HA.out (by simp [laws_FnScaleDivides.j0])
    | succ kj2 =>
      have H := HA.out
      clear HA
      simp only [laws_FnScaleDivides.j0] at H
      by_cases c5 : x18_2 = true
      · subst c5
        have H1 : (some true) = some r := by rw [if_pos rfl] at H; exact H
        clear H
        have H := H1
        clear H1
        obtain rfl := Option.some.inj H
        go_wp2
        go_ret
        exact ⟨by first | rfl | (simp [errW_none, errW_some] <;> rfl) | (simp [*, errW_none, errW_some] <;> rfl), by repeat (first | (with_reducible first | exact HB.out | apply below_alloc | apply pw_below_drewN | apply below_drew1) | exact HB.out)⟩
      · replace c5 := Bool.eq_false_iff.mpr c5
        subst c5
        have H1 : ((impl_ScaleDivide.f a0 a1).bind fun bt163 => (if bt163.2.2 = true then ((spec_DecimalOf.f kj2 1 a1).bind fun bt166 => ((laws_scaleFits.f kj2 bt166.1 bt166.2.1 bt166.2.2).bind fun bt171 => ((impl_ScaleDivide.f 25 1).bind fun bt173 => (if bt171.2 = true then (if bt171.1 = 0 then (none) else (if bt163.1 = (wrap64 (Int.tdiv a0 bt171.1)) then (if bt163.2.1 = (Int.tmod a0 bt171.1) then (if bt173.2.2 = true then (if bt173.1 = 2 then (some (bt173.2.1 == 5)) else (some false)) else (some false)) else (some false)) else (some false))) else (some false))))) else (some (decide (a1 > 17))))) = some r := by rw [if_neg (show ¬ (false = true) by decide)] at H; exact H
        clear H
        have H := H1
        clear H1
        replace H := Option.bind_eq_some_iff.mp H
        obtain ⟨⟨t163, t164, t165⟩, A60, H⟩ := H
        replace H : (if t165 = true then ((spec_DecimalOf.f kj2 1 a1).bind fun bt166 => ((laws_scaleFits.f kj2 bt166.1 bt166.2.1 bt166.2.2).bind fun bt171 => ((impl_ScaleDivide.f 25 1).bind fun bt173 => (if bt171.2 = true then (if bt171.1 = 0 then (none) else (if t163 = (wrap64 (Int.tdiv a0 bt171.1)) then (if t164 = (Int.tmod a0 bt171.1) then (if bt173.2.2 = true then (if bt173.1 = 2 then (some (bt173.2.1 == 5)) else (some false)) else (some false)) else (some false)) else (some false))) else (some false))))) else (some (decide (a1 > 17)))) = some r := H
        have A6 := Aside0.mk A60
        clear A60
        by_cases c7 : t165 = true
        · subst c7
          have H1 : ((spec_DecimalOf.f kj2 1 a1).bind fun bt166 => ((laws_scaleFits.f kj2 bt166.1 bt166.2.1 bt166.2.2).bind fun bt171 => ((impl_ScaleDivide.f 25 1).bind fun bt173 => (if bt171.2 = true then (if bt171.1 = 0 then (none) else (if t163 = (wrap64 (Int.tdiv a0 bt171.1)) then (if t164 = (Int.tmod a0 bt171.1) then (if bt173.2.2 = true then (if bt173.1 = 2 then (some (bt173.2.1 == 5)) else (some false)) else (some false)) else (some false)) else (some false))) else (some false))))) = some r := by rw [if_pos rfl] at H; exact H
          clear H
          have H := H1
          clear H1
          replace H := Option.bind_eq_some_iff.mp H
          obtain ⟨⟨t166, t167, t170⟩, A80, H⟩ := H
          replace H : ((laws_scaleFits.f kj2 t166 t167 t170).bind fun bt171 => ((impl_ScaleDivide.f 25 1).bind fun bt173 => (if bt171.2 = true then (if bt171.1 = 0 then (none) else (if t163 = (wrap64 (Int.tdiv a0 bt171.1)) then (if t164 = (Int.tmod a0 bt171.1) then (if bt173.2.2 = true then (if bt173.1 = 2 then (some (bt173.2.1 == 5)) else (some false)) else (some false)) else (some false)) else (some false))) else (some false)))) = some r := H
          have A8 := Aside0.mk A80
          clear A80
          replace H := Option.bind_eq_some_iff.mp H
          obtain ⟨⟨t171, t172⟩, A90, H⟩ := H
          replace H : ((impl_ScaleDivide.f 25 1).bind fun bt173 => (if t172 = true then (if t171 = 0 then (none) else (if t163 = (wrap64 (Int.tdiv a0 t171)) then (if t164 = (Int.tmod a0 t171) then (if bt173.2.2 = true then (if bt173.1 = 2 then (some (bt173.2.1 == 5)) else (some false)) else (some false)) else (some false)) else (some false))) else (some false))) = some r := H
          have A9 := Aside0.mk A90
          clear A90
          replace H := Option.bind_eq_some_iff.mp H
          obtain ⟨⟨t173, t174, t175⟩, A100, H⟩ := H
          replace H : (if t172 = true then (if t171 = 0 then (none) else (if t163 = (wrap64 (Int.tdiv a0 t171)) then (if t164 = (Int.tmod a0 t171) then (if t175 = true then (if t173 = 2 then (some (t174 == 5)) else (some false)) else (some false)) else (some false)) else (some false))) else (some false)) = some r := H
          have A10 := Aside0.mk A100
          clear A100
          by_cases c11 : t172 = true
          · subst c11
            have H1 : (if t171 = 0 then (none) else (if t163 = (wrap64 (Int.tdiv a0 t171)) then (if t164 = (Int.tmod a0 t171) then (if t175 = true then (if t173 = 2 then (some (t174 == 5)) else (some false)) else (some false)) else (some false)) else (some false))) = some r := by rw [if_pos rfl] at H; exact H
            clear H
            have H := H1
            clear H1
            by_cases c12 : t171 = 0
            · rw [if_pos c12] at H
              exact absurd H (by simp)
            · rw [if_neg c12] at H
              have c12b0 : (t171 == 0) = false := beq_eq_false_iff_ne.mpr c12
              have c12b1 : (t171 != 0) = true := bne_iff_ne.mpr c12
              by_cases c13 : t163 = (wrap64 (Int.tdiv a0 t171))
              · rw [if_pos c13] at H
                have c13b0 : (t163 == (wrap64 (Int.tdiv a0 t171))) = true := beq_iff_eq.mpr c13
                have c13b1 : (t163 != (wrap64 (Int.tdiv a0 t171))) = false := bne_eq_false_iff_eq.mpr c13
                clear c13
                by_cases c14 : t164 = (Int.tmod a0 t171)
                · rw [if_pos c14] at H
                  have c14b0 : (t164 == (Int.tmod a0 t171)) = true := beq_iff_eq.mpr c14
                  have c14b1 : (t164 != (Int.tmod a0 t171)) = false := bne_eq_false_iff_eq.mpr c14
                  clear c14
                  by_cases c15 : t175 = true
                  · subst c15
                    have H1 : (if t173 = 2 then (some (t174 == 5)) else (some false)) = some r := by rw [if_pos rfl] at H; exact H
                    clear H
                    have H := H1
                    clear H1
                    by_cases c16 : t173 = 2
                    · rw [if_pos c16] at H
                      have c16b0 : (t173 == 2) = true := beq_iff_eq.mpr c16
                      have c16b1 : (t173 != 2) = false := bne_eq_false_iff_eq.mpr c16
                      clear c16
                      obtain rfl := Option.some.inj H
                      go_wp2_with (first | ((with_reducible refine gate_callee (f := 13) rfl ?_); refine goesL_ (some 22) rfl rfl Try.func13 (by kernel_rfl) rfl #[.int .i64 a0, .int .i64 a1] rfl (by (try simp only [List.map_toArray, List.map_cons, List.map_nil]); first | done | rfl | (simp only [List.length_drop, List.length_take]; rfl)) ?_; (with_reducible refine (impl_ScaleDivide.calls a0 a1 t163 t164 true _ A6.out).mono ?_); rintro e w' ⟨rfl, ⟨nd, rfl⟩⟩; refine ⟨_, rfl, ?_⟩) | ((with_reducible refine gate_callee (f := 10) rfl ?_); refine goesL_ (some 32) rfl rfl Try.func10 (by kernel_rfl) rfl #[.int .i64 1, .int .i64 a1] rfl (by (try simp only [List.map_toArray, List.map_cons, List.map_nil]); first | done | rfl | (simp only [List.length_drop, List.length_take]; rfl)) ?_; (with_reducible refine (spec_DecimalOf.calls kj2 1 a1 t166 t167 t170 _ A8.out).mono ?_); rintro e w17 ⟨v168, rfl, ho0, hb⟩; refine ⟨_, rfl, ?_⟩; have n0_ := Aside0.mk (Kd.R_lower ho0 (below_size (by repeat (first | (with_reducible first | exact HB.out | apply below_alloc | apply pw_below_drewN | apply below_drew1) | exact HB.out)))); have n1_ := Aside0.mk (below_step (by repeat (first | (with_reducible first | exact HB.out | apply below_alloc | apply pw_below_drewN | apply below_drew1) | exact HB.out)) hb); clear HB; have HO169 := n0_; have HB := n1_; clear n0_ n1_; (try clear hb); (try clear hb2); (try clear hk); (try clear hi); (try clear ho0); obtain ⟨Ao18, co18, eo18⟩ := Kd.R_slice HO169.out; subst eo18) | ((with_reducible refine gate_callee (f := 11) rfl ?_); refine goesL_ (some 33) rfl rfl Try.func11 (by kernel_rfl) rfl #[.agg #[.bool t166, .slice Ao18 t167.length co18, .int .i64 t170]] rfl (by (try simp only [List.map_toArray, List.map_cons, List.map_nil]); first | done | rfl | (simp only [List.length_drop, List.length_take]; rfl)) ?_; (with_reducible refine (laws_scaleFits.calls kj2 t166 _ _ t167 t170 t171 true _ ?side1 ?side2 A9.out).mono ?_); (case side1 => repeat (first | exact (Kd.R_reads' HO169.out).2.2 | (with_reducible refine Kd.C_alloc ?_ _) | (with_reducible refine Kd.C_drewN ?_ _) | (with_reducible refine Kd.C_drew ?_))); (case side2 => exact (Kd.R_reads' HO169.out).2.1); rintro e w19 ⟨rfl, hb⟩; refine ⟨_, rfl, ?_⟩; have n0_ := Aside0.mk (Kd.R_below (by (with_reducible repeat (first | apply Kd.R_alloc | apply Kd.R_drewN | apply Kd.R_drew)); exact HO169.out) hb); have n1_ := Aside0.mk (below_step (by repeat (first | (with_reducible first | exact HB.out | apply below_alloc | apply pw_below_drewN | apply below_drew1) | exact HB.out)) hb); clear HO169; clear HB; have HO169 := n0_; have HB := n1_; clear n0_ n1_; (try clear hb); (try clear hb2); (try clear hk); (try clear hi)) | ((with_reducible refine gate_callee (f := 13) rfl ?_); refine goesL_ (some 37) rfl rfl Try.func13 (by kernel_rfl) rfl #[.int .i64 25, .int .i64 1] rfl (by (try simp only [List.map_toArray, List.map_cons, List.map_nil]); first | done | rfl | (simp only [List.length_drop, List.length_take]; rfl)) ?_; (with_reducible refine (impl_ScaleDivide.calls 25 1 t173 t174 true _ A10.out).mono ?_); rintro e w' ⟨rfl, ⟨nd, rfl⟩⟩; refine ⟨_, rfl, ?_⟩))
                      go_ret
                      exact ⟨by first | rfl | (simp [errW_none, errW_some] <;> rfl) | (simp [*, errW_none, errW_some] <;> rfl), by repeat (first | (with_reducible first | exact HB.out | apply below_alloc | apply pw_below_drewN | apply below_drew1) | exact HB.out)⟩
                    · rw [if_neg c16] at H
                      have c16b0 : (t173 == 2) = false := beq_eq_false_iff_ne.mpr c16
                      have c16b1 : (t173 != 2) = true := bne_iff_ne.mpr c16
                      obtain rfl := Option.some.inj H
                      go_wp2_with (first | ((with_reducible refine gate_callee (f := 13) rfl ?_); refine goesL_ (some 22) rfl rfl Try.func13 (by kernel_rfl) rfl #[.int .i64 a0, .int .i64 a1] rfl (by (try simp only [List.map_toArray, List.map_cons, List.map_nil]); first | done | rfl | (simp only [List.length_drop, List.length_take]; rfl)) ?_; (with_reducible refine (impl_ScaleDivide.calls a0 a1 t163 t164 true _ A6.out).mono ?_); rintro e w' ⟨rfl, ⟨nd, rfl⟩⟩; refine ⟨_, rfl, ?_⟩) | ((with_reducible refine gate_callee (f := 10) rfl ?_); refine goesL_ (some 32) rfl rfl Try.func10 (by kernel_rfl) rfl #[.int .i64 1, .int .i64 a1] rfl (by (try simp only [List.map_toArray, List.map_cons, List.map_nil]); first | done | rfl | (simp only [List.length_drop, List.length_take]; rfl)) ?_; (with_reducible refine (spec_DecimalOf.calls kj2 1 a1 t166 t167 t170 _ A8.out).mono ?_); rintro e w20 ⟨v168, rfl, ho0, hb⟩; refine ⟨_, rfl, ?_⟩; have n0_ := Aside0.mk (Kd.R_lower ho0 (below_size (by repeat (first | (with_reducible first | exact HB.out | apply below_alloc | apply pw_below_drewN | apply below_drew1) | exact HB.out)))); have n1_ := Aside0.mk (below_step (by repeat (first | (with_reducible first | exact HB.out | apply below_alloc | apply pw_below_drewN | apply below_drew1) | exact HB.out)) hb); clear HB; have HO169 := n0_; have HB := n1_; clear n0_ n1_; (try clear hb); (try clear hb2); (try clear hk); (try clear hi); (try clear ho0); obtain ⟨Ao21, co21, eo21⟩ := Kd.R_slice HO169.out; subst eo21) | ((with_reducible refine gate_callee (f := 11) rfl ?_); refine goesL_ (some 33) rfl rfl Try.func11 (by kernel_rfl) rfl #[.agg #[.bool t166, .slice Ao21 t167.length co21, .int .i64 t170]] rfl (by (try simp only [List.map_toArray, List.map_cons, List.map_nil]); first | done | rfl | (simp only [List.length_drop, List.length_take]; rfl)) ?_; (with_reducible refine (laws_scaleFits.calls kj2 t166 _ _ t167 t170 t171 true _ ?side1 ?side2 A9.out).mono ?_); (case side1 => repeat (first | exact (Kd.R_reads' HO169.out).2.2 | (with_reducible refine Kd.C_alloc ?_ _) | (with_reducible refine Kd.C_drewN ?_ _) | (with_reducible refine Kd.C_drew ?_))); (case side2 => exact (Kd.R_reads' HO169.out).2.1); rintro e w22 ⟨rfl, hb⟩; refine ⟨_, rfl, ?_⟩; have n0_ := Aside0.mk (Kd.R_below (by (with_reducible repeat (first | apply Kd.R_alloc | apply Kd.R_drewN | apply Kd.R_drew)); exact HO169.out) hb); have n1_ := Aside0.mk (below_step (by repeat (first | (with_reducible first | exact HB.out | apply below_alloc | apply pw_below_drewN | apply below_drew1) | exact HB.out)) hb); clear HO169; clear HB; have HO169 := n0_; have HB := n1_; clear n0_ n1_; (try clear hb); (try clear hb2); (try clear hk); (try clear hi)) | ((with_reducible refine gate_callee (f := 13) rfl ?_); refine goesL_ (some 37) rfl rfl Try.func13 (by kernel_rfl) rfl #[.int .i64 25, .int .i64 1] rfl (by (try simp only [List.map_toArray, List.map_cons, List.map_nil]); first | done | rfl | (simp only [List.length_drop, List.length_take]; rfl)) ?_; (with_reducible refine (impl_ScaleDivide.calls 25 1 t173 t174 true _ A10.out).mono ?_); rintro e w' ⟨rfl, ⟨nd, rfl⟩⟩; refine ⟨_, rfl, ?_⟩))
                      go_ret
                      exact ⟨by first | rfl | (simp [errW_none, errW_some] <;> rfl) | (simp [*, errW_none, errW_some] <;> rfl), by repeat (first | (with_reducible first | exact HB.out | apply below_alloc | apply pw_below_drewN | apply below_drew1) | exact HB.out)⟩
                  · replace c15 := Bool.eq_false_iff.mpr c15
                    subst c15
                    have H1 : (some false) = some r := by rw [if_neg (show ¬ (false = true) by decide)] at H; exact H
                    clear H
                    have H := H1
                    clear H1
                    obtain rfl := Option.some.inj H
                    go_wp2_with (first | ((with_reducible refine gate_callee (f := 13) rfl ?_); refine goesL_ (some 22) rfl rfl Try.func13 (by kernel_rfl) rfl #[.int .i64 a0, .int .i64 a1] rfl (by (try simp only [List.map_toArray, List.map_cons, List.map_nil]); first | done | rfl | (simp only [List.length_drop, List.length_take]; rfl)) ?_; (with_reducible refine (impl_ScaleDivide.calls a0 a1 t163 t164 true _ A6.out).mono ?_); rintro e w' ⟨rfl, ⟨nd, rfl⟩⟩; refine ⟨_, rfl, ?_⟩) | ((with_reducible refine gate_callee (f := 10) rfl ?_); refine goesL_ (some 32) rfl rfl Try.func10 (by kernel_rfl) rfl #[.int .i64 1, .int .i64 a1] rfl (by (try simp only [List.map_toArray, List.map_cons, List.map_nil]); first | done | rfl | (simp only [List.length_drop, List.length_take]; rfl)) ?_; (with_reducible refine (spec_DecimalOf.calls kj2 1 a1 t166 t167 t170 _ A8.out).mono ?_); rintro e w23 ⟨v168, rfl, ho0, hb⟩; refine ⟨_, rfl, ?_⟩; have n0_ := Aside0.mk (Kd.R_lower ho0 (below_size (by repeat (first | (with_reducible first | exact HB.out | apply below_alloc | apply pw_below_drewN | apply below_drew1) | exact HB.out)))); have n1_ := Aside0.mk (below_step (by repeat (first | (with_reducible first | exact HB.out | apply below_alloc | apply pw_below_drewN | apply below_drew1) | exact HB.out)) hb); clear HB; have HO169 := n0_; have HB := n1_; clear n0_ n1_; (try clear hb); (try clear hb2); (try clear hk); (try clear hi); (try clear ho0); obtain ⟨Ao24, co24, eo24⟩ := Kd.R_slice HO169.out; subst eo24) | ((with_reducible refine gate_callee (f := 11) rfl ?_); refine goesL_ (some 33) rfl rfl Try.func11 (by kernel_rfl) rfl #[.agg #[.bool t166, .slice Ao24 t167.length co24, .int .i64 t170]] rfl (by (try simp only [List.map_toArray, List.map_cons, List.map_nil]); first | done | rfl | (simp only [List.length_drop, List.length_take]; rfl)) ?_; (with_reducible refine (laws_scaleFits.calls kj2 t166 _ _ t167 t170 t171 true _ ?side1 ?side2 A9.out).mono ?_); (case side1 => repeat (first | exact (Kd.R_reads' HO169.out).2.2 | (with_reducible refine Kd.C_alloc ?_ _) | (with_reducible refine Kd.C_drewN ?_ _) | (with_reducible refine Kd.C_drew ?_))); (case side2 => exact (Kd.R_reads' HO169.out).2.1); rintro e w25 ⟨rfl, hb⟩; refine ⟨_, rfl, ?_⟩; have n0_ := Aside0.mk (Kd.R_below (by (with_reducible repeat (first | apply Kd.R_alloc | apply Kd.R_drewN | apply Kd.R_drew)); exact HO169.out) hb); have n1_ := Aside0.mk (below_step (by repeat (first | (with_reducible first | exact HB.out | apply below_alloc | apply pw_below_drewN | apply below_drew1) | exact HB.out)) hb); clear HO169; clear HB; have HO169 := n0_; have HB := n1_; clear n0_ n1_; (try clear hb); (try clear hb2); (try clear hk); (try clear hi)) | ((with_reducible refine gate_callee (f := 13) rfl ?_); refine goesL_ (some 37) rfl rfl Try.func13 (by kernel_rfl) rfl #[.int .i64 25, .int .i64 1] rfl (by (try simp only [List.map_toArray, List.map_cons, List.map_nil]); first | done | rfl | (simp only [List.length_drop, List.length_take]; rfl)) ?_; (with_reducible refine (impl_ScaleDivide.calls 25 1 t173 t174 false _ A10.out).mono ?_); rintro e w' ⟨rfl, ⟨nd, rfl⟩⟩; refine ⟨_, rfl, ?_⟩))
                    go_ret
                    exact ⟨by first | rfl | (simp [errW_none, errW_some] <;> rfl) | (simp [*, errW_none, errW_some] <;> rfl), by repeat (first | (with_reducible first | exact HB.out | apply below_alloc | apply pw_below_drewN | apply below_drew1) | exact HB.out)⟩
                · rw [if_neg c14] at H
                  have c14b0 : (t164 == (Int.tmod a0 t171)) = false := beq_eq_false_iff_ne.mpr c14
                  have c14b1 : (t164 != (Int.tmod a0 t171)) = true := bne_iff_ne.mpr c14
                  obtain rfl := Option.some.inj H
                  go_wp2_with (first | ((with_reducible refine gate_callee (f := 13) rfl ?_); refine goesL_ (some 22) rfl rfl Try.func13 (by kernel_rfl) rfl #[.int .i64 a0, .int .i64 a1] rfl (by (try simp only [List.map_toArray, List.map_cons, List.map_nil]); first | done | rfl | (simp only [List.length_drop, List.length_take]; rfl)) ?_; (with_reducible refine (impl_ScaleDivide.calls a0 a1 t163 t164 true _ A6.out).mono ?_); rintro e w' ⟨rfl, ⟨nd, rfl⟩⟩; refine ⟨_, rfl, ?_⟩) | ((with_reducible refine gate_callee (f := 10) rfl ?_); refine goesL_ (some 32) rfl rfl Try.func10 (by kernel_rfl) rfl #[.int .i64 1, .int .i64 a1] rfl (by (try simp only [List.map_toArray, List.map_cons, List.map_nil]); first | done | rfl | (simp only [List.length_drop, List.length_take]; rfl)) ?_; (with_reducible refine (spec_DecimalOf.calls kj2 1 a1 t166 t167 t170 _ A8.out).mono ?_); rintro e w26 ⟨v168, rfl, ho0, hb⟩; refine ⟨_, rfl, ?_⟩; have n0_ := Aside0.mk (Kd.R_lower ho0 (below_size (by repeat (first | (with_reducible first | exact HB.out | apply below_alloc | apply pw_below_drewN | apply below_drew1) | exact HB.out)))); have n1_ := Aside0.mk (below_step (by repeat (first | (with_reducible first | exact HB.out | apply below_alloc | apply pw_below_drewN | apply below_drew1) | exact HB.out)) hb); clear HB; have HO169 := n0_; have HB := n1_; clear n0_ n1_; (try clear hb); (try clear hb2); (try clear hk); (try clear hi); (try clear ho0); obtain ⟨Ao27, co27, eo27⟩ := Kd.R_slice HO169.out; subst eo27) | ((with_reducible refine gate_callee (f := 11) rfl ?_); refine goesL_ (some 33) rfl rfl Try.func11 (by kernel_rfl) rfl #[.agg #[.bool t166, .slice Ao27 t167.length co27, .int .i64 t170]] rfl (by (try simp only [List.map_toArray, List.map_cons, List.map_nil]); first | done | rfl | (simp only [List.length_drop, List.length_take]; rfl)) ?_; (with_reducible refine (laws_scaleFits.calls kj2 t166 _ _ t167 t170 t171 true _ ?side1 ?side2 A9.out).mono ?_); (case side1 => repeat (first | exact (Kd.R_reads' HO169.out).2.2 | (with_reducible refine Kd.C_alloc ?_ _) | (with_reducible refine Kd.C_drewN ?_ _) | (with_reducible refine Kd.C_drew ?_))); (case side2 => exact (Kd.R_reads' HO169.out).2.1); rintro e w28 ⟨rfl, hb⟩; refine ⟨_, rfl, ?_⟩; have n0_ := Aside0.mk (Kd.R_below (by (with_reducible repeat (first | apply Kd.R_alloc | apply Kd.R_drewN | apply Kd.R_drew)); exact HO169.out) hb); have n1_ := Aside0.mk (below_step (by repeat (first | (with_reducible first | exact HB.out | apply below_alloc | apply pw_below_drewN | apply below_drew1) | exact HB.out)) hb); clear HO169; clear HB; have HO169 := n0_; have HB := n1_; clear n0_ n1_; (try clear hb); (try clear hb2); (try clear hk); (try clear hi)) | ((with_reducible refine gate_callee (f := 13) rfl ?_); refine goesL_ (some 37) rfl rfl Try.func13 (by kernel_rfl) rfl #[.int .i64 25, .int .i64 1] rfl (by (try simp only [List.map_toArray, List.map_cons, List.map_nil]); first | done | rfl | (simp only [List.length_drop, List.length_take]; rfl)) ?_; (with_reducible refine (impl_ScaleDivide.calls 25 1 t173 t174 t175 _ A10.out).mono ?_); rintro e w' ⟨rfl, ⟨nd, rfl⟩⟩; refine ⟨_, rfl, ?_⟩))
                  go_ret
                  exact ⟨by first | rfl | (simp [errW_none, errW_some] <;> rfl) | (simp [*, errW_none, errW_some] <;> rfl), by repeat (first | (with_reducible first | exact HB.out | apply below_alloc | apply pw_below_drewN | apply below_drew1) | exact HB.out)⟩
              · rw [if_neg c13] at H
                have c13b0 : (t163 == (wrap64 (Int.tdiv a0 t171))) = false := beq_eq_false_iff_ne.mpr c13
                have c13b1 : (t163 != (wrap64 (Int.tdiv a0 t171))) = true := bne_iff_ne.mpr c13
                obtain rfl := Option.some.inj H
                go_wp2_with (first | ((with_reducible refine gate_callee (f := 13) rfl ?_); refine goesL_ (some 22) rfl rfl Try.func13 (by kernel_rfl) rfl #[.int .i64 a0, .int .i64 a1] rfl (by (try simp only [List.map_toArray, List.map_cons, List.map_nil]); first | done | rfl | (simp only [List.length_drop, List.length_take]; rfl)) ?_; (with_reducible refine (impl_ScaleDivide.calls a0 a1 t163 t164 true _ A6.out).mono ?_); rintro e w' ⟨rfl, ⟨nd, rfl⟩⟩; refine ⟨_, rfl, ?_⟩) | ((with_reducible refine gate_callee (f := 10) rfl ?_); refine goesL_ (some 32) rfl rfl Try.func10 (by kernel_rfl) rfl #[.int .i64 1, .int .i64 a1] rfl (by (try simp only [List.map_toArray, List.map_cons, List.map_nil]); first | done | rfl | (simp only [List.length_drop, List.length_take]; rfl)) ?_; (with_reducible refine (spec_DecimalOf.calls kj2 1 a1 t166 t167 t170 _ A8.out).mono ?_); rintro e w29 ⟨v168, rfl, ho0, hb⟩; refine ⟨_, rfl, ?_⟩; have n0_ := Aside0.mk (Kd.R_lower ho0 (below_size (by repeat (first | (with_reducible first | exact HB.out | apply below_alloc | apply pw_below_drewN | apply below_drew1) | exact HB.out)))); have n1_ := Aside0.mk (below_step (by repeat (first | (with_reducible first | exact HB.out | apply below_alloc | apply pw_below_drewN | apply below_drew1) | exact HB.out)) hb); clear HB; have HO169 := n0_; have HB := n1_; clear n0_ n1_; (try clear hb); (try clear hb2); (try clear hk); (try clear hi); (try clear ho0); obtain ⟨Ao30, co30, eo30⟩ := Kd.R_slice HO169.out; subst eo30) | ((with_reducible refine gate_callee (f := 11) rfl ?_); refine goesL_ (some 33) rfl rfl Try.func11 (by kernel_rfl) rfl #[.agg #[.bool t166, .slice Ao30 t167.length co30, .int .i64 t170]] rfl (by (try simp only [List.map_toArray, List.map_cons, List.map_nil]); first | done | rfl | (simp only [List.length_drop, List.length_take]; rfl)) ?_; (with_reducible refine (laws_scaleFits.calls kj2 t166 _ _ t167 t170 t171 true _ ?side1 ?side2 A9.out).mono ?_); (case side1 => repeat (first | exact (Kd.R_reads' HO169.out).2.2 | (with_reducible refine Kd.C_alloc ?_ _) | (with_reducible refine Kd.C_drewN ?_ _) | (with_reducible refine Kd.C_drew ?_))); (case side2 => exact (Kd.R_reads' HO169.out).2.1); rintro e w31 ⟨rfl, hb⟩; refine ⟨_, rfl, ?_⟩; have n0_ := Aside0.mk (Kd.R_below (by (with_reducible repeat (first | apply Kd.R_alloc | apply Kd.R_drewN | apply Kd.R_drew)); exact HO169.out) hb); have n1_ := Aside0.mk (below_step (by repeat (first | (with_reducible first | exact HB.out | apply below_alloc | apply pw_below_drewN | apply below_drew1) | exact HB.out)) hb); clear HO169; clear HB; have HO169 := n0_; have HB := n1_; clear n0_ n1_; (try clear hb); (try clear hb2); (try clear hk); (try clear hi)) | ((with_reducible refine gate_callee (f := 13) rfl ?_); refine goesL_ (some 37) rfl rfl Try.func13 (by kernel_rfl) rfl #[.int .i64 25, .int .i64 1] rfl (by (try simp only [List.map_toArray, List.map_cons, List.map_nil]); first | done | rfl | (simp only [List.length_drop, List.length_take]; rfl)) ?_; (with_reducible refine (impl_ScaleDivide.calls 25 1 t173 t174 t175 _ A10.out).mono ?_); rintro e w' ⟨rfl, ⟨nd, rfl⟩⟩; refine ⟨_, rfl, ?_⟩))
                go_ret
                exact ⟨by first | rfl | (simp [errW_none, errW_some] <;> rfl) | (simp [*, errW_none, errW_some] <;> rfl), by repeat (first | (with_reducible first | exact HB.out | apply below_alloc | apply pw_below_drewN | apply below_drew1) | exact HB.out)⟩
          · replace c11 := Bool.eq_false_iff.mpr c11
            subst c11
            have H1 : (some false) = some r := by rw [if_neg (show ¬ (false = true) by decide)] at H; exact H
            clear H
            have H := H1
            clear H1
            obtain rfl := Option.some.inj H
            go_wp2_with (first | ((with_reducible refine gate_callee (f := 13) rfl ?_); refine goesL_ (some 22) rfl rfl Try.func13 (by kernel_rfl) rfl #[.int .i64 a0, .int .i64 a1] rfl (by (try simp only [List.map_toArray, List.map_cons, List.map_nil]); first | done | rfl | (simp only [List.length_drop, List.length_take]; rfl)) ?_; (with_reducible refine (impl_ScaleDivide.calls a0 a1 t163 t164 true _ A6.out).mono ?_); rintro e w' ⟨rfl, ⟨nd, rfl⟩⟩; refine ⟨_, rfl, ?_⟩) | ((with_reducible refine gate_callee (f := 10) rfl ?_); refine goesL_ (some 32) rfl rfl Try.func10 (by kernel_rfl) rfl #[.int .i64 1, .int .i64 a1] rfl (by (try simp only [List.map_toArray, List.map_cons, List.map_nil]); first | done | rfl | (simp only [List.length_drop, List.length_take]; rfl)) ?_; (with_reducible refine (spec_DecimalOf.calls kj2 1 a1 t166 t167 t170 _ A8.out).mono ?_); rintro e w32 ⟨v168, rfl, ho0, hb⟩; refine ⟨_, rfl, ?_⟩; have n0_ := Aside0.mk (Kd.R_lower ho0 (below_size (by repeat (first | (with_reducible first | exact HB.out | apply below_alloc | apply pw_below_drewN | apply below_drew1) | exact HB.out)))); have n1_ := Aside0.mk (below_step (by repeat (first | (with_reducible first | exact HB.out | apply below_alloc | apply pw_below_drewN | apply below_drew1) | exact HB.out)) hb); clear HB; have HO169 := n0_; have HB := n1_; clear n0_ n1_; (try clear hb); (try clear hb2); (try clear hk); (try clear hi); (try clear ho0); obtain ⟨Ao33, co33, eo33⟩ := Kd.R_slice HO169.out; subst eo33) | ((with_reducible refine gate_callee (f := 11) rfl ?_); refine goesL_ (some 33) rfl rfl Try.func11 (by kernel_rfl) rfl #[.agg #[.bool t166, .slice Ao33 t167.length co33, .int .i64 t170]] rfl (by (try simp only [List.map_toArray, List.map_cons, List.map_nil]); first | done | rfl | (simp only [List.length_drop, List.length_take]; rfl)) ?_; (with_reducible refine (laws_scaleFits.calls kj2 t166 _ _ t167 t170 t171 false _ ?side1 ?side2 A9.out).mono ?_); (case side1 => repeat (first | exact (Kd.R_reads' HO169.out).2.2 | (with_reducible refine Kd.C_alloc ?_ _) | (with_reducible refine Kd.C_drewN ?_ _) | (with_reducible refine Kd.C_drew ?_))); (case side2 => exact (Kd.R_reads' HO169.out).2.1); rintro e w34 ⟨rfl, hb⟩; refine ⟨_, rfl, ?_⟩; have n0_ := Aside0.mk (Kd.R_below (by (with_reducible repeat (first | apply Kd.R_alloc | apply Kd.R_drewN | apply Kd.R_drew)); exact HO169.out) hb); have n1_ := Aside0.mk (below_step (by repeat (first | (with_reducible first | exact HB.out | apply below_alloc | apply pw_below_drewN | apply below_drew1) | exact HB.out)) hb); clear HO169; clear HB; have HO169 := n0_; have HB := n1_; clear n0_ n1_; (try clear hb); (try clear hb2); (try clear hk); (try clear hi)) | ((with_reducible refine gate_callee (f := 13) rfl ?_); refine goesL_ (some 37) rfl rfl Try.func13 (by kernel_rfl) rfl #[.int .i64 25, .int .i64 1] rfl (by (try simp only [List.map_toArray, List.map_cons, List.map_nil]); first | done | rfl | (simp only [List.length_drop, List.length_take]; rfl)) ?_; (with_reducible refine (impl_ScaleDivide.calls 25 1 t173 t174 t175 _ A10.out).mono ?_); rintro e w' ⟨rfl, ⟨nd, rfl⟩⟩; refine ⟨_, rfl, ?_⟩))
            go_ret
            exact ⟨by first | rfl | (simp [errW_none, errW_some] <;> rfl) | (simp [*, errW_none, errW_some] <;> rfl), by repeat (first | (with_reducible first | exact HB.out | apply below_alloc | apply pw_below_drewN | apply below_drew1) | exact HB.out)⟩
        · replace c7 := Bool.eq_false_iff.mpr c7
          subst c7
          have H1 : (some (decide (a1 > 17))) = some r := by rw [if_neg (show ¬ (false = true) by decide)] at H; exact H
          clear H
          have H := H1
          clear H1
          obtain rfl := Option.some.inj H
          go_wp2_with (first | ((with_reducible refine gate_callee (f := 13) rfl ?_); refine goesL_ (some 22) rfl rfl Try.func13 (by kernel_rfl) rfl #[.int .i64 a0, .int .i64 a1] rfl (by (try simp only [List.map_toArray, List.map_cons, List.map_nil]); first | done | rfl | (simp only [List.length_drop, List.length_take]; rfl)) ?_; (with_reducible refine (impl_ScaleDivide.calls a0 a1 t163 t164 false _ A6.out).mono ?_); rintro e w' ⟨rfl, ⟨nd, rfl⟩⟩; refine ⟨_, rfl, ?_⟩))
          go_ret
          exact ⟨by first | rfl | (simp [errW_none, errW_some] <;> rfl) | (simp [*, errW_none, errW_some] <;> rfl), by repeat (first | (with_reducible first | exact HB.out | apply below_alloc | apply pw_below_drewN | apply below_drew1) | exact HB.out)⟩

/-- THE ONE PURE STATEMENT of laws_FnScaleDivides: yours. -/
def laws_FnScaleDivides.Pure : Prop := ∀ (a0 : Int) (a1 : Int), (Lit.int .i64 a0).wf = true → (Lit.int .i64 a1).wf = true → ∃ k, laws_FnScaleDivides.f k a0 a1 = some true
theorem laws_FnScaleDivides.walk (P : laws_FnScaleDivides.Pure) (a0 : Int) (a1 : Int) (w : World) (w0 : (Lit.int .i64 a0).wf = true) (w1 : (Lit.int .i64 a1).wf = true) :
    Calls Try.prog 4 #[.int .i64 a0, .int .i64 a1] w fun e w' => e = .returned (.bool true) ∧ Below w.heap.size w w' := by
  obtain ⟨k, h⟩ := P a0 a1 w0 w1
  refine (laws_FnScaleDivides.calls k a0 a1 true w h).mono ?_
  rintro e w' ⟨rfl, hd⟩
  exact ⟨rfl, hd⟩

end Go.Proofs.Ytpchihkegmihiaa.PFnScaleDivides
