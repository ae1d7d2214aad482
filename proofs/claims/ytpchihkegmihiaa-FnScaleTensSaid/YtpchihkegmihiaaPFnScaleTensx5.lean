-- PRINTED BY print.sh 35421559b90ae4d0a3588c463048766b98c2df88dd9212a6774a882060cdf62d: not written by this session
import Derived.Test.YtpchihkegmihiaaPFnScaleTensx0
import Derived.Test.YtpchihkegmihiaaPFnScaleTensx4
namespace Go.Proofs.Ytpchihkegmihiaa.PFnScaleTens
open Go.RowKit Go.Proofs.YtpchihkegmihiaaW.PrintWords Go.Proofs.YtpchihkegmihiaaW.PrintLast Go.Proofs.YtpchihkegmihiaaW.PrintMore
attribute [local go_sem] max2_int min2_int max_two min_two max_three min_three max_four min_four   -- for this text's walks alone
set_option linter.unusedVariables false
set_option linter.unusedSimpArgs false

/-! ### resource_positiveScaleInt64: function 55 -/
def resource_positiveScaleInt64.l0 : Nat → Int → Int → Int → Option (Int × Bool)
  | 0, _, _, _ => none
  | k + 1, x1, x6, x8 => if x8 < x1 then ((resource_int64MultiplyScale.f k x6 10).bind fun bt198 => (if bt198.2 = true then (resource_positiveScaleInt64.l0 k x1 bt198.1 (wrap32 (x8 + 1))) else (some (0, false)))) else (some (x6, true))
def resource_positiveScaleInt64.f (k : Nat) (a0 : Int) (a1 : Int) : Option (Int × Bool) := if a1 = 0 then (some (a0, true)) else (if a1 = 1 then ((resource_int64MultiplyScale10.f k a0).bind fun bt188 => (some (bt188.1, bt188.2))) else (if a1 = 2 then ((resource_int64MultiplyScale100.f k a0).bind fun bt190 => (some (bt190.1, bt190.2))) else (if a1 = 3 then ((resource_int64MultiplyScale1000.f k a0).bind fun bt192 => (some (bt192.1, bt192.2))) else (if a1 = 6 then ((resource_int64MultiplyScale.f k a0 1000000).bind fun bt194 => (some (bt194.1, bt194.2))) else (if a1 = 9 then ((resource_int64MultiplyScale.f k a0 1000000000).bind fun bt196 => (some (bt196.1, bt196.2))) else (resource_positiveScaleInt64.l0 k a1 a0 0))))))
theorem resource_positiveScaleInt64.mono_l : ∀ k, (∀ y0 y1 y2, LeO (resource_positiveScaleInt64.l0 k y0 y1 y2) (resource_positiveScaleInt64.l0 (k + 1) y0 y1 y2))
  | 0 => fun _ _ _ r h => by simp [resource_positiveScaleInt64.l0] at h
  | k + 1 => by
    have ih0 := resource_positiveScaleInt64.mono_l k
    · intro y0 y1 y2
      unfold resource_positiveScaleInt64.l0
      repeat' first
      | (with_reducible exact ih0 _ _ _)
      | (with_reducible exact resource_int64MultiplyScale.mono _ _ _)
      | (with_reducible exact resource_int64MultiplyScale10.mono _ _)
      | (with_reducible exact resource_int64MultiplyScale100.mono _ _)
      | (with_reducible exact resource_int64MultiplyScale1000.mono _ _)
      | (with_reducible exact LeO.refl _)
      | (with_reducible exact LeO.none _)
      | (with_reducible refine LeO.ite ?_ ?_)
      | (with_reducible refine LeO.bind ?_ (fun _ => ?_))
      | exact ih0 _ _ _
      | exact resource_int64MultiplyScale.mono _ _ _
      | exact resource_int64MultiplyScale10.mono _ _
      | exact resource_int64MultiplyScale100.mono _ _
      | exact resource_int64MultiplyScale1000.mono _ _
      | exact LeO.none _
      | refine LeO.ite ?_ ?_
      | refine LeO.bind ?_ (fun _ => ?_)
theorem resource_positiveScaleInt64.mono : ∀ a0 a1 k, LeO (resource_positiveScaleInt64.f k a0 a1) (resource_positiveScaleInt64.f (k + 1) a0 a1) := by
  intro a0 a1 k
  have ih0 := resource_positiveScaleInt64.mono_l k
  unfold resource_positiveScaleInt64.f
  repeat' first
      | (with_reducible exact ih0 _ _ _)
      | (with_reducible exact resource_int64MultiplyScale.mono _ _ _)
      | (with_reducible exact resource_int64MultiplyScale10.mono _ _)
      | (with_reducible exact resource_int64MultiplyScale100.mono _ _)
      | (with_reducible exact resource_int64MultiplyScale1000.mono _ _)
      | (with_reducible exact LeO.refl _)
      | (with_reducible exact LeO.none _)
      | (with_reducible refine LeO.ite ?_ ?_)
      | (with_reducible refine LeO.bind ?_ (fun _ => ?_))
      | exact ih0 _ _ _
      | exact resource_int64MultiplyScale.mono _ _ _
      | exact resource_int64MultiplyScale10.mono _ _
      | exact resource_int64MultiplyScale100.mono _ _
      | exact resource_int64MultiplyScale1000.mono _ _
      | exact LeO.none _
      | refine LeO.ite ?_ ?_
      | refine LeO.bind ?_ (fun _ => ?_)
set_option maxHeartbeats 8000000 in
set_option maxRecDepth 100000 in
theorem resource_positiveScaleInt64.calls (k : Nat) (a0 : Int) (a1 : Int) (r1 : Int) (r2 : Bool) (w : World) (h : resource_positiveScaleInt64.f k a0 a1 = some (r1, r2)) :
    Calls Try.prog 55 #[.int .i64 a0, .int .i32 a1] w fun e w' => e = .returned (.tuple #[.int .i64 r1, .bool r2]) ∧ Drawn0 w w' := by
  have H : (if a1 = 0 then (some (a0, true)) else (if a1 = 1 then ((resource_int64MultiplyScale10.f k a0).bind fun bt188 => (some (bt188.1, bt188.2))) else (if a1 = 2 then ((resource_int64MultiplyScale100.f k a0).bind fun bt190 => (some (bt190.1, bt190.2))) else (if a1 = 3 then ((resource_int64MultiplyScale1000.f k a0).bind fun bt192 => (some (bt192.1, bt192.2))) else (if a1 = 6 then ((resource_int64MultiplyScale.f k a0 1000000).bind fun bt194 => (some (bt194.1, bt194.2))) else (if a1 = 9 then ((resource_int64MultiplyScale.f k a0 1000000000).bind fun bt196 => (some (bt196.1, bt196.2))) else (resource_positiveScaleInt64.l0 k a1 a0 0))))))) = some (r1, r2) := h
  clear h
  by_cases c3 : a1 = 0
  · rw [if_pos c3] at H
    have c3b0 : (a1 == 0) = true := beq_iff_eq.mpr c3
    have c3b1 : (a1 != 0) = false := bne_eq_false_iff_eq.mpr c3
    clear c3
    simp only [Option.some.injEq, Prod.mk.injEq] at H
    obtain ⟨rfl, rfl⟩ := H
    go_enter Try.func55, Try.ntmps55
    go_wp2
    go_ret2
    exact ⟨by first | rfl | (simp; done) | (simp [*]; done), by repeat (first | exact Drawn0.refl _ | apply Drawn0.step)⟩
  · rw [if_neg c3] at H
    have c3b0 : (a1 == 0) = false := beq_eq_false_iff_ne.mpr c3
    have c3b1 : (a1 != 0) = true := bne_iff_ne.mpr c3
    by_cases c4 : a1 = 1
    · rw [if_pos c4] at H
      have c4b0 : (a1 == 1) = true := beq_iff_eq.mpr c4
      have c4b1 : (a1 != 1) = false := bne_eq_false_iff_eq.mpr c4
      clear c4
      replace H := Option.bind_eq_some_iff.mp H
      obtain ⟨⟨t188, t189⟩, A50, H⟩ := H
      replace H : (some (t188, t189)) = some (r1, r2) := H
      have A5 := Aside0.mk A50
      clear A50
      simp only [Option.some.injEq, Prod.mk.injEq] at H
      obtain ⟨rfl, rfl⟩ := H
      go_enter Try.func55, Try.ntmps55
      go_wp2_with (first | ((with_reducible refine gate_callee (f := 52) rfl ?_); refine goesL_ (some 30) rfl rfl Try.func52 (by kernel_rfl) rfl #[.int .i64 a0] rfl (by (try simp only [List.map_toArray, List.map_cons, List.map_nil]); first | done | rfl | (simp only [List.length_drop, List.length_take]; rfl)) ?_; (with_reducible refine (resource_int64MultiplyScale10.calls k a0 t188 t189 _ A5.out).mono ?_); rintro e w' ⟨rfl, ⟨nd, rfl⟩⟩; refine ⟨_, rfl, ?_⟩))
      go_ret2
      exact ⟨by first | rfl | (simp; done) | (simp [*]; done), by repeat (first | exact Drawn0.refl _ | apply Drawn0.step)⟩
    · rw [if_neg c4] at H
      have c4b0 : (a1 == 1) = false := beq_eq_false_iff_ne.mpr c4
      have c4b1 : (a1 != 1) = true := bne_iff_ne.mpr c4
      by_cases c6 : a1 = 2
      · rw [if_pos c6] at H
        have c6b0 : (a1 == 2) = true := beq_iff_eq.mpr c6
        have c6b1 : (a1 != 2) = false := bne_eq_false_iff_eq.mpr c6
        clear c6
        replace H := Option.bind_eq_some_iff.mp H
        obtain ⟨⟨t190, t191⟩, A70, H⟩ := H
        replace H : (some (t190, t191)) = some (r1, r2) := H
        have A7 := Aside0.mk A70
        clear A70
        simp only [Option.some.injEq, Prod.mk.injEq] at H
        obtain ⟨rfl, rfl⟩ := H
        go_enter Try.func55, Try.ntmps55
        go_wp2_with (first | ((with_reducible refine gate_callee (f := 53) rfl ?_); refine goesL_ (some 36) rfl rfl Try.func53 (by kernel_rfl) rfl #[.int .i64 a0] rfl (by (try simp only [List.map_toArray, List.map_cons, List.map_nil]); first | done | rfl | (simp only [List.length_drop, List.length_take]; rfl)) ?_; (with_reducible refine (resource_int64MultiplyScale100.calls k a0 t190 t191 _ A7.out).mono ?_); rintro e w' ⟨rfl, ⟨nd, rfl⟩⟩; refine ⟨_, rfl, ?_⟩))
        go_ret2
        exact ⟨by first | rfl | (simp; done) | (simp [*]; done), by repeat (first | exact Drawn0.refl _ | apply Drawn0.step)⟩
      · rw [if_neg c6] at H
        have c6b0 : (a1 == 2) = false := beq_eq_false_iff_ne.mpr c6
        have c6b1 : (a1 != 2) = true := bne_iff_ne.mpr c6
        by_cases c8 : a1 = 3
        · rw [if_pos c8] at H
          have c8b0 : (a1 == 3) = true := beq_iff_eq.mpr c8
          have c8b1 : (a1 != 3) = false := bne_eq_false_iff_eq.mpr c8
          clear c8
          replace H := Option.bind_eq_some_iff.mp H
          obtain ⟨⟨t192, t193⟩, A90, H⟩ := H
          replace H : (some (t192, t193)) = some (r1, r2) := H
          have A9 := Aside0.mk A90
          clear A90
          simp only [Option.some.injEq, Prod.mk.injEq] at H
          obtain ⟨rfl, rfl⟩ := H
          go_enter Try.func55, Try.ntmps55
          go_wp2_with (first | ((with_reducible refine gate_callee (f := 54) rfl ?_); refine goesL_ (some 42) rfl rfl Try.func54 (by kernel_rfl) rfl #[.int .i64 a0] rfl (by (try simp only [List.map_toArray, List.map_cons, List.map_nil]); first | done | rfl | (simp only [List.length_drop, List.length_take]; rfl)) ?_; (with_reducible refine (resource_int64MultiplyScale1000.calls k a0 t192 t193 _ A9.out).mono ?_); rintro e w' ⟨rfl, ⟨nd, rfl⟩⟩; refine ⟨_, rfl, ?_⟩))
          go_ret2
          exact ⟨by first | rfl | (simp; done) | (simp [*]; done), by repeat (first | exact Drawn0.refl _ | apply Drawn0.step)⟩
        · rw [if_neg c8] at H
          have c8b0 : (a1 == 3) = false := beq_eq_false_iff_ne.mpr c8
          have c8b1 : (a1 != 3) = true := bne_iff_ne.mpr c8
          by_cases c10 : a1 = 6
          · rw [if_pos c10] at H
            have c10b0 : (a1 == 6) = true := beq_iff_eq.mpr c10
            have c10b1 : (a1 != 6) = false := bne_eq_false_iff_eq.mpr c10
            clear c10
            replace H := Option.bind_eq_some_iff.mp H
            obtain ⟨⟨t194, t195⟩, A110, H⟩ := H
            replace H : (some (t194, t195)) = some (r1, r2) := H
            have A11 := Aside0.mk A110
            clear A110
            simp only [Option.some.injEq, Prod.mk.injEq] at H
            obtain ⟨rfl, rfl⟩ := H
            go_enter Try.func55, Try.ntmps55
            go_wp2_with (first | ((with_reducible refine gate_callee (f := 58) rfl ?_); refine goesL_ (some 48) rfl rfl Try.func58 (by kernel_rfl) rfl #[.int .i64 a0, .int .i64 1000000] rfl (by (try simp only [List.map_toArray, List.map_cons, List.map_nil]); first | done | rfl | (simp only [List.length_drop, List.length_take]; rfl)) ?_; (with_reducible refine (resource_int64MultiplyScale.calls k a0 1000000 t194 t195 _ A11.out).mono ?_); rintro e w' ⟨rfl, ⟨nd, rfl⟩⟩; refine ⟨_, rfl, ?_⟩))
            go_ret2
            exact ⟨by first | rfl | (simp; done) | (simp [*]; done), by repeat (first | exact Drawn0.refl _ | apply Drawn0.step)⟩
          · rw [if_neg c10] at H
            have c10b0 : (a1 == 6) = false := beq_eq_false_iff_ne.mpr c10
            have c10b1 : (a1 != 6) = true := bne_iff_ne.mpr c10
            by_cases c12 : a1 = 9
            · rw [if_pos c12] at H
              have c12b0 : (a1 == 9) = true := beq_iff_eq.mpr c12
              have c12b1 : (a1 != 9) = false := bne_eq_false_iff_eq.mpr c12
              clear c12
              replace H := Option.bind_eq_some_iff.mp H
              obtain ⟨⟨t196, t197⟩, A130, H⟩ := H
              replace H : (some (t196, t197)) = some (r1, r2) := H
              have A13 := Aside0.mk A130
              clear A130
              simp only [Option.some.injEq, Prod.mk.injEq] at H
              obtain ⟨rfl, rfl⟩ := H
              go_enter Try.func55, Try.ntmps55
              go_wp2_with (first | ((with_reducible refine gate_callee (f := 58) rfl ?_); refine goesL_ (some 54) rfl rfl Try.func58 (by kernel_rfl) rfl #[.int .i64 a0, .int .i64 1000000000] rfl (by (try simp only [List.map_toArray, List.map_cons, List.map_nil]); first | done | rfl | (simp only [List.length_drop, List.length_take]; rfl)) ?_; (with_reducible refine (resource_int64MultiplyScale.calls k a0 1000000000 t196 t197 _ A13.out).mono ?_); rintro e w' ⟨rfl, ⟨nd, rfl⟩⟩; refine ⟨_, rfl, ?_⟩))
              go_ret2
              exact ⟨by first | rfl | (simp; done) | (simp [*]; done), by repeat (first | exact Drawn0.refl _ | apply Drawn0.step)⟩
            · rw [if_neg c12] at H
              have c12b0 : (a1 == 9) = false := beq_eq_false_iff_ne.mpr c12
              have c12b1 : (a1 != 9) = true := bne_iff_ne.mpr c12
              have H' := Aside0.mk H
              clear H
              go_enter Try.func55, Try.ntmps55
              go_wp2
              go_loopg [6, 8] k (fun kq v6 v8 w' => ∃ (x6_1 : Int) (x8_1 : Int), v6 = .int .i64 x6_1 ∧ v8 = .int .i32 x8_1 ∧ Aside0 (resource_positiveScaleInt64.l0 kq a1 x6_1 x8_1 = some (r1, r2)) ∧ Aside0 (kq ≤ k) ∧ Drawn0 w w')
              case atStart => exact ⟨(a0), (0), (by first | rfl | (simp; done) | (simp [*]; done)), (by first | rfl | (simp; done) | (simp [*]; done)), H', ⟨Nat.le_refl _⟩, by repeat (first | exact Drawn0.refl _ | apply Drawn0.step)⟩
              case round =>
                clear H'
                try clear c1
                try clear p2
                try clear c3
                try clear c3b0
                try clear c3b1
                try clear c4
                try clear c4b0
                try clear c4b1
                try clear c5
                try clear c6
                try clear c6b0
                try clear c6b1
                try clear c8
                try clear c8b0
                try clear c8b1
                try clear c10
                try clear c10b0
                try clear c10b1
                try clear c12
                try clear c12b0
                try clear c12b1
                obtain ⟨x6_1, x8_1, rfl, rfl, HA, HK1, ⟨m1, rfl⟩⟩ := hrel
                cases gk with
                | zero => exact absurd HA.out (by simp [resource_positiveScaleInt64.l0])
                | succ k1 =>
                  have H := HA.out
                  clear HA
                  simp only [resource_positiveScaleInt64.l0] at H
                  by_cases c14 : x8_1 < a1
                  · rw [if_pos c14] at H
                    have c14b0 : decide (x8_1 < a1) = true := decide_eq_true c14
                    clear c14
                    replace H := Option.bind_eq_some_iff.mp H
                    obtain ⟨⟨t198, t199⟩, A150, H⟩ := H
                    replace H : (if t199 = true then (resource_positiveScaleInt64.l0 k1 a1 t198 (wrap32 (x8_1 + 1))) else (some (0, false))) = some (r1, r2) := H
                    have A15 := Aside0.mk A150
                    clear A150
                    by_cases c16 : t199 = true
                    · subst c16
                      have H1 : (resource_positiveScaleInt64.l0 k1 a1 t198 (wrap32 (x8_1 + 1))) = some (r1, r2) := by rw [if_pos rfl] at H; exact H
                      clear H
                      have H := H1
                      clear H1
                      have H' := Aside0.mk H
                      clear H
                      go_wp2_with (first | ((with_reducible refine gate_callee (f := 58) rfl ?_); refine goesL_ (some 18) rfl rfl Try.func58 (by kernel_rfl) rfl #[.int .i64 x6_1, .int .i64 10] rfl (by (try simp only [List.map_toArray, List.map_cons, List.map_nil]); first | done | rfl | (simp only [List.length_drop, List.length_take]; rfl)) ?_; (with_reducible refine (resource_int64MultiplyScale.calls k1 x6_1 10 t198 true _ A15.out).mono ?_); rintro e w' ⟨rfl, ⟨nd, rfl⟩⟩; refine ⟨_, rfl, ?_⟩))
                      go_roundg k1
                      case measure => have := HK1.out; omega
                      case rel => exact ⟨(t198), (wrap32 (x8_1 + 1)), (by first | rfl | (simp; done) | (simp [*]; done)), (by first | rfl | (simp; done) | (simp [*]; done)), H', ⟨by have := HK1.out; omega⟩, by repeat (first | exact Drawn0.refl _ | apply Drawn0.step)⟩
                    · replace c16 := Bool.eq_false_iff.mpr c16
                      subst c16
                      have H1 : (some (0, false)) = some (r1, r2) := by rw [if_neg (show ¬ (false = true) by decide)] at H; exact H
                      clear H
                      have H := H1
                      clear H1
                      simp only [Option.some.injEq, Prod.mk.injEq] at H
                      obtain ⟨rfl, rfl⟩ := H
                      go_wp2_with (first | ((with_reducible refine gate_callee (f := 58) rfl ?_); refine goesL_ (some 18) rfl rfl Try.func58 (by kernel_rfl) rfl #[.int .i64 x6_1, .int .i64 10] rfl (by (try simp only [List.map_toArray, List.map_cons, List.map_nil]); first | done | rfl | (simp only [List.length_drop, List.length_take]; rfl)) ?_; (with_reducible refine (resource_int64MultiplyScale.calls k1 x6_1 10 t198 false _ A15.out).mono ?_); rintro e w' ⟨rfl, ⟨nd, rfl⟩⟩; refine ⟨_, rfl, ?_⟩))
                      go_ret2
                      exact ⟨by first | rfl | (simp; done) | (simp [*]; done), by repeat (first | exact Drawn0.refl _ | apply Drawn0.step)⟩
                  · rw [if_neg c14] at H
                    have c14b0 : decide (x8_1 < a1) = false := decide_eq_false c14
                    clear c14
                    simp only [Option.some.injEq, Prod.mk.injEq] at H
                    obtain ⟨rfl, rfl⟩ := H
                    go_wp2
                    go_ret2
                    exact ⟨by first | rfl | (simp; done) | (simp [*]; done), by repeat (first | exact Drawn0.refl _ | apply Drawn0.step)⟩

/-! ### resource_ZzPositiveScale: function 39 -/
def resource_ZzPositiveScale.f (k : Nat) (a0 : Int) (a1 : Int) : Option (Int × Bool) := (resource_positiveScaleInt64.f k a0 a1).bind fun bt200 => (some (bt200.1, bt200.2))
theorem resource_ZzPositiveScale.mono : ∀ a0 a1 k, LeO (resource_ZzPositiveScale.f k a0 a1) (resource_ZzPositiveScale.f (k + 1) a0 a1) := by
  intro a0 a1 k
  unfold resource_ZzPositiveScale.f
  repeat' first
      | (with_reducible exact resource_positiveScaleInt64.mono _ _ _)
      | (with_reducible exact LeO.refl _)
      | (with_reducible exact LeO.none _)
      | (with_reducible refine LeO.ite ?_ ?_)
      | (with_reducible refine LeO.bind ?_ (fun _ => ?_))
      | exact resource_positiveScaleInt64.mono _ _ _
      | exact LeO.none _
      | refine LeO.ite ?_ ?_
      | refine LeO.bind ?_ (fun _ => ?_)
set_option maxHeartbeats 8000000 in
set_option maxRecDepth 100000 in
theorem resource_ZzPositiveScale.calls (k : Nat) (a0 : Int) (a1 : Int) (r1 : Int) (r2 : Bool) (w : World) (h : resource_ZzPositiveScale.f k a0 a1 = some (r1, r2)) :
    Calls Try.prog 39 #[.int .i64 a0, .int .i32 a1] w fun e w' => e = .returned (.tuple #[.int .i64 r1, .bool r2]) ∧ Drawn0 w w' := by
  have H : ((resource_positiveScaleInt64.f k a0 a1).bind fun bt200 => (some (bt200.1, bt200.2))) = some (r1, r2) := h
  clear h
  replace H := Option.bind_eq_some_iff.mp H
  obtain ⟨⟨t200, t201⟩, A30, H⟩ := H
  replace H : (some (t200, t201)) = some (r1, r2) := H
  have A3 := Aside0.mk A30
  clear A30
  simp only [Option.some.injEq, Prod.mk.injEq] at H
  obtain ⟨rfl, rfl⟩ := H
  go_enter Try.func39, Try.ntmps39
  go_wp2_with (first | ((with_reducible refine gate_callee (f := 55) rfl ?_); refine goesL_ (some 8) rfl rfl Try.func55 (by kernel_rfl) rfl #[.int .i64 a0, .int .i32 a1] rfl (by (try simp only [List.map_toArray, List.map_cons, List.map_nil]); first | done | rfl | (simp only [List.length_drop, List.length_take]; rfl)) ?_; (with_reducible refine (resource_positiveScaleInt64.calls k a0 a1 t200 t201 _ A3.out).mono ?_); rintro e w' ⟨rfl, ⟨nd, rfl⟩⟩; refine ⟨_, rfl, ?_⟩))
  go_ret2
  exact ⟨by first | rfl | (simp; done) | (simp [*]; done), by repeat (first | exact Drawn0.refl _ | apply Drawn0.step)⟩

/-! ### impl_ScaleUp: function 16 -/
def impl_ScaleUp.f (k : Nat) (a0 : Int) (a1 : Int) : Option (Int × Bool) := (resource_ZzPositiveScale.f k a0 (wrap32 (a1))).bind fun bt202 => (some (bt202.1, bt202.2))
theorem impl_ScaleUp.mono : ∀ a0 a1 k, LeO (impl_ScaleUp.f k a0 a1) (impl_ScaleUp.f (k + 1) a0 a1) := by
  intro a0 a1 k
  unfold impl_ScaleUp.f
  repeat' first
      | (with_reducible exact resource_ZzPositiveScale.mono _ _ _)
      | (with_reducible exact LeO.refl _)
      | (with_reducible exact LeO.none _)
      | (with_reducible refine LeO.ite ?_ ?_)
      | (with_reducible refine LeO.bind ?_ (fun _ => ?_))
      | exact resource_ZzPositiveScale.mono _ _ _
      | exact LeO.none _
      | refine LeO.ite ?_ ?_
      | refine LeO.bind ?_ (fun _ => ?_)
set_option maxHeartbeats 8000000 in
set_option maxRecDepth 100000 in
theorem impl_ScaleUp.calls (k : Nat) (a0 : Int) (a1 : Int) (r1 : Int) (r2 : Bool) (w : World) (h : impl_ScaleUp.f k a0 a1 = some (r1, r2)) :
    Calls Try.prog 16 #[.int .i64 a0, .int .i64 a1] w fun e w' => e = .returned (.tuple #[.int .i64 r1, .bool r2]) ∧ Drawn0 w w' := by
  have H : ((resource_ZzPositiveScale.f k a0 (wrap32 (a1))).bind fun bt202 => (some (bt202.1, bt202.2))) = some (r1, r2) := h
  clear h
  replace H := Option.bind_eq_some_iff.mp H
  obtain ⟨⟨t202, t203⟩, A30, H⟩ := H
  replace H : (some (t202, t203)) = some (r1, r2) := H
  have A3 := Aside0.mk A30
  clear A30
  simp only [Option.some.injEq, Prod.mk.injEq] at H
  obtain ⟨rfl, rfl⟩ := H
  go_enter Try.func16, Try.ntmps16
  go_wp2_with (first | ((with_reducible refine gate_callee (f := 39) rfl ?_); refine goesL_ (some 9) rfl rfl Try.func39 (by kernel_rfl) rfl #[.int .i64 a0, .int .i32 (wrap32 (a1))] rfl (by (try simp only [List.map_toArray, List.map_cons, List.map_nil]); first | done | rfl | (simp only [List.length_drop, List.length_take]; rfl)) ?_; (with_reducible refine (resource_ZzPositiveScale.calls k a0 (wrap32 (a1)) t202 t203 _ A3.out).mono ?_); rintro e w' ⟨rfl, ⟨nd, rfl⟩⟩; refine ⟨_, rfl, ?_⟩))
  go_ret2
  exact ⟨by first | rfl | (simp; done) | (simp [*]; done), by repeat (first | exact Drawn0.refl _ | apply Drawn0.step)⟩

/-! ### resource_pow10Int64: function 56 -/
def resource_pow10Int64.f (a0 : Int) : Option (Int) := if a0 = 0 then (some 1) else (if a0 = 1 then (some 10) else (if a0 = 2 then (some 100) else (if a0 = 3 then (some 1000) else (if a0 = 4 then (some 10000) else (if a0 = 5 then (some 100000) else (if a0 = 6 then (some 1000000) else (if a0 = 7 then (some 10000000) else (if a0 = 8 then (some 100000000) else (if a0 = 9 then (some 1000000000) else (if a0 = 10 then (some 10000000000) else (if a0 = 11 then (some 100000000000) else (if a0 = 12 then (some 1000000000000) else (if a0 = 13 then (some 10000000000000) else (if a0 = 14 then (some 100000000000000) else (if a0 = 15 then (some 1000000000000000) else (if a0 = 16 then (some 10000000000000000) else (if a0 = 17 then (some 100000000000000000) else (if a0 = 18 then (some 1000000000000000000) else (some 0)))))))))))))))))))
set_option maxHeartbeats 8000000 in
set_option maxRecDepth 100000 in
theorem resource_pow10Int64.calls (a0 : Int) (r : Int) (w : World) (h : resource_pow10Int64.f a0 = some r) :
    Calls Try.prog 56 #[.int .i64 a0] w fun e w' => e = .returned (.int .i64 r) ∧ Drawn0 w w' := by
  have H : (if a0 = 0 then (some 1) else (if a0 = 1 then (some 10) else (if a0 = 2 then (some 100) else (if a0 = 3 then (some 1000) else (if a0 = 4 then (some 10000) else (if a0 = 5 then (some 100000) else (if a0 = 6 then (some 1000000) else (if a0 = 7 then (some 10000000) else (if a0 = 8 then (some 100000000) else (if a0 = 9 then (some 1000000000) else (if a0 = 10 then (some 10000000000) else (if a0 = 11 then (some 100000000000) else (if a0 = 12 then (some 1000000000000) else (if a0 = 13 then (some 10000000000000) else (if a0 = 14 then (some 100000000000000) else (if a0 = 15 then (some 1000000000000000) else (if a0 = 16 then (some 10000000000000000) else (if a0 = 17 then (some 100000000000000000) else (if a0 = 18 then (some 1000000000000000000) else (some 0)))))))))))))))))))) = some r := h
  clear h
  by_cases c2 : a0 = 0
  · rw [if_pos c2] at H
    have c2b0 : (a0 == 0) = true := beq_iff_eq.mpr c2
    have c2b1 : (a0 != 0) = false := bne_eq_false_iff_eq.mpr c2
    clear c2
    obtain rfl := Option.some.inj H
    go_enter Try.func56, Try.ntmps56
    go_wp2
    go_ret
    exact ⟨by first | rfl | (simp; done) | (simp [*]; done), by repeat (first | exact Drawn0.refl _ | apply Drawn0.step)⟩
  · rw [if_neg c2] at H
    have c2b0 : (a0 == 0) = false := beq_eq_false_iff_ne.mpr c2
    have c2b1 : (a0 != 0) = true := bne_iff_ne.mpr c2
    by_cases c3 : a0 = 1
    · rw [if_pos c3] at H
      have c3b0 : (a0 == 1) = true := beq_iff_eq.mpr c3
      have c3b1 : (a0 != 1) = false := bne_eq_false_iff_eq.mpr c3
      clear c3
      obtain rfl := Option.some.inj H
      go_enter Try.func56, Try.ntmps56
      go_wp2
      go_ret
      exact ⟨by first | rfl | (simp; done) | (simp [*]; done), by repeat (first | exact Drawn0.refl _ | apply Drawn0.step)⟩
    · rw [if_neg c3] at H
      have c3b0 : (a0 == 1) = false := beq_eq_false_iff_ne.mpr c3
      have c3b1 : (a0 != 1) = true := bne_iff_ne.mpr c3
      by_cases c4 : a0 = 2
      · rw [if_pos c4] at H
        have c4b0 : (a0 == 2) = true := beq_iff_eq.mpr c4
        have c4b1 : (a0 != 2) = false := bne_eq_false_iff_eq.mpr c4
        clear c4
        obtain rfl := Option.some.inj H
        go_enter Try.func56, Try.ntmps56
        go_wp2
        go_ret
        exact ⟨by first | rfl | (simp; done) | (simp [*]; done), by repeat (first | exact Drawn0.refl _ | apply Drawn0.step)⟩
      · rw [if_neg c4] at H
        have c4b0 : (a0 == 2) = false := beq_eq_false_iff_ne.mpr c4
        have c4b1 : (a0 != 2) = true := bne_iff_ne.mpr c4
        by_cases c5 : a0 = 3
        · rw [if_pos c5] at H
          have c5b0 : (a0 == 3) = true := beq_iff_eq.mpr c5
          have c5b1 : (a0 != 3) = false := bne_eq_false_iff_eq.mpr c5
          clear c5
          obtain rfl := Option.some.inj H
          go_enter Try.func56, Try.ntmps56
          go_wp2
          go_ret
          exact ⟨by first | rfl | (simp; done) | (simp [*]; done), by repeat (first | exact Drawn0.refl _ | apply Drawn0.step)⟩
        · rw [if_neg c5] at H
          have c5b0 : (a0 == 3) = false := beq_eq_false_iff_ne.mpr c5
          have c5b1 : (a0 != 3) = true := bne_iff_ne.mpr c5
          by_cases c6 : a0 = 4
          · rw [if_pos c6] at H
            have c6b0 : (a0 == 4) = true := beq_iff_eq.mpr c6
            have c6b1 : (a0 != 4) = false := bne_eq_false_iff_eq.mpr c6
            clear c6
            obtain rfl := Option.some.inj H
            go_enter Try.func56, Try.ntmps56
            go_wp2
            go_ret
            exact ⟨by first | rfl | (simp; done) | (simp [*]; done), by repeat (first | exact Drawn0.refl _ | apply Drawn0.step)⟩
          · rw [if_neg c6] at H
            have c6b0 : (a0 == 4) = false := beq_eq_false_iff_ne.mpr c6
            have c6b1 : (a0 != 4) = true := bne_iff_ne.mpr c6
            by_cases c7 : a0 = 5
            · rw [if_pos c7] at H
              have c7b0 : (a0 == 5) = true := beq_iff_eq.mpr c7
              have c7b1 : (a0 != 5) = false := bne_eq_false_iff_eq.mpr c7
              clear c7
              obtain rfl := Option.some.inj H
              go_enter Try.func56, Try.ntmps56
              go_wp2
              go_ret
              exact ⟨by first | rfl | (simp; done) | (simp [*]; done), by repeat (first | exact Drawn0.refl _ | apply Drawn0.step)⟩
            · rw [if_neg c7] at H
              have c7b0 : (a0 == 5) = false := beq_eq_false_iff_ne.mpr c7
              have c7b1 : (a0 != 5) = true := bne_iff_ne.mpr c7
              by_cases c8 : a0 = 6
              · rw [if_pos c8] at H
                have c8b0 : (a0 == 6) = true := beq_iff_eq.mpr c8
                have c8b1 : (a0 != 6) = false := bne_eq_false_iff_eq.mpr c8
                clear c8
                obtain rfl := Option.some.inj H
                go_enter Try.func56, Try.ntmps56
                go_wp2
                go_ret
                exact ⟨by first | rfl | (simp; done) | (simp [*]; done), by repeat (first | exact Drawn0.refl _ | apply Drawn0.step)⟩
              · rw [if_neg c8] at H
                have c8b0 : (a0 == 6) = false := beq_eq_false_iff_ne.mpr c8
                have c8b1 : (a0 != 6) = true := bne_iff_ne.mpr c8
                by_cases c9 : a0 = 7
                · rw [if_pos c9] at H
                  have c9b0 : (a0 == 7) = true := beq_iff_eq.mpr c9
                  have c9b1 : (a0 != 7) = false := bne_eq_false_iff_eq.mpr c9
                  clear c9
                  obtain rfl := Option.some.inj H
                  go_enter Try.func56, Try.ntmps56
                  go_wp2
                  go_ret
                  exact ⟨by first | rfl | (simp; done) | (simp [*]; done), by repeat (first | exact Drawn0.refl _ | apply Drawn0.step)⟩
                · rw [if_neg c9] at H
                  have c9b0 : (a0 == 7) = false := beq_eq_false_iff_ne.mpr c9
                  have c9b1 : (a0 != 7) = true := bne_iff_ne.mpr c9
                  by_cases c10 : a0 = 8
                  · rw [if_pos c10] at H
                    have c10b0 : (a0 == 8) = true := beq_iff_eq.mpr c10
                    have c10b1 : (a0 != 8) = false := bne_eq_false_iff_eq.mpr c10
                    clear c10
                    obtain rfl := Option.some.inj H
                    go_enter Try.func56, Try.ntmps56
                    go_wp2
                    go_ret
                    exact ⟨by first | rfl | (simp; done) | (simp [*]; done), by repeat (first | exact Drawn0.refl _ | apply Drawn0.step)⟩
                  · rw [if_neg c10] at H
                    have c10b0 : (a0 == 8) = false := beq_eq_false_iff_ne.mpr c10
                    have c10b1 : (a0 != 8) = true := bne_iff_ne.mpr c10
                    by_cases c11 : a0 = 9
                    · rw [if_pos c11] at H
                      have c11b0 : (a0 == 9) = true := beq_iff_eq.mpr c11
                      have c11b1 : (a0 != 9) = false := bne_eq_false_iff_eq.mpr c11
                      clear c11
                      obtain rfl := Option.some.inj H
                      go_enter Try.func56, Try.ntmps56
                      go_wp2
                      go_ret
                      exact ⟨by first | rfl | (simp; done) | (simp [*]; done), by repeat (first | exact Drawn0.refl _ | apply Drawn0.step)⟩
                    · rw [if_neg c11] at H
                      have c11b0 : (a0 == 9) = false := beq_eq_false_iff_ne.mpr c11
                      have c11b1 : (a0 != 9) = true := bne_iff_ne.mpr c11
                      by_cases c12 : a0 = 10
                      · rw [if_pos c12] at H
                        have c12b0 : (a0 == 10) = true := beq_iff_eq.mpr c12
                        have c12b1 : (a0 != 10) = false := bne_eq_false_iff_eq.mpr c12
                        clear c12
                        obtain rfl := Option.some.inj H
                        go_enter Try.func56, Try.ntmps56
                        go_wp2
                        go_ret
                        exact ⟨by first | rfl | (simp; done) | (simp [*]; done), by repeat (first | exact Drawn0.refl _ | apply Drawn0.step)⟩
                      · rw [if_neg c12] at H
                        have c12b0 : (a0 == 10) = false := beq_eq_false_iff_ne.mpr c12
                        have c12b1 : (a0 != 10) = true := bne_iff_ne.mpr c12
                        by_cases c13 : a0 = 11
                        · rw [if_pos c13] at H
                          have c13b0 : (a0 == 11) = true := beq_iff_eq.mpr c13
                          have c13b1 : (a0 != 11) = false := bne_eq_false_iff_eq.mpr c13
                          clear c13
                          obtain rfl := Option.some.inj H
                          go_enter Try.func56, Try.ntmps56
                          go_wp2
                          go_ret
                          exact ⟨by first | rfl | (simp; done) | (simp [*]; done), by repeat (first | exact Drawn0.refl _ | apply Drawn0.step)⟩
                        · rw [if_neg c13] at H
                          have c13b0 : (a0 == 11) = false := beq_eq_false_iff_ne.mpr c13
                          have c13b1 : (a0 != 11) = true := bne_iff_ne.mpr c13
                          by_cases c14 : a0 = 12
                          · rw [if_pos c14] at H
                            have c14b0 : (a0 == 12) = true := beq_iff_eq.mpr c14
                            have c14b1 : (a0 != 12) = false := bne_eq_false_iff_eq.mpr c14
                            clear c14
                            obtain rfl := Option.some.inj H
                            go_enter Try.func56, Try.ntmps56
                            go_wp2
                            go_ret
                            exact ⟨by first | rfl | (simp; done) | (simp [*]; done), by repeat (first | exact Drawn0.refl _ | apply Drawn0.step)⟩
                          · rw [if_neg c14] at H
                            have c14b0 : (a0 == 12) = false := beq_eq_false_iff_ne.mpr c14
                            have c14b1 : (a0 != 12) = true := bne_iff_ne.mpr c14
                            by_cases c15 : a0 = 13
                            · rw [if_pos c15] at H
                              have c15b0 : (a0 == 13) = true := beq_iff_eq.mpr c15
                              have c15b1 : (a0 != 13) = false := bne_eq_false_iff_eq.mpr c15
                              clear c15
                              obtain rfl := Option.some.inj H
                              go_enter Try.func56, Try.ntmps56
                              go_wp2
                              go_ret
                              exact ⟨by first | rfl | (simp; done) | (simp [*]; done), by repeat (first | exact Drawn0.refl _ | apply Drawn0.step)⟩
                            · rw [if_neg c15] at H
                              have c15b0 : (a0 == 13) = false := beq_eq_false_iff_ne.mpr c15
                              have c15b1 : (a0 != 13) = true := bne_iff_ne.mpr c15
                              by_cases c16 : a0 = 14
                              · rw [if_pos c16] at H
                                have c16b0 : (a0 == 14) = true := beq_iff_eq.mpr c16
                                have c16b1 : (a0 != 14) = false := bne_eq_false_iff_eq.mpr c16
                                clear c16
                                obtain rfl := Option.some.inj H
                                go_enter Try.func56, Try.ntmps56
                                go_wp2
                                go_ret
                                exact ⟨by first | rfl | (simp; done) | (simp [*]; done), by repeat (first | exact Drawn0.refl _ | apply Drawn0.step)⟩
                              · rw [if_neg c16] at H
                                have c16b0 : (a0 == 14) = false := beq_eq_false_iff_ne.mpr c16
                                have c16b1 : (a0 != 14) = true := bne_iff_ne.mpr c16
                                by_cases c17 : a0 = 15
                                · rw [if_pos c17] at H
                                  have c17b0 : (a0 == 15) = true := beq_iff_eq.mpr c17
                                  have c17b1 : (a0 != 15) = false := bne_eq_false_iff_eq.mpr c17
                                  clear c17
                                  obtain rfl := Option.some.inj H
                                  go_enter Try.func56, Try.ntmps56
                                  go_wp2
                                  go_ret
                                  exact ⟨by first | rfl | (simp; done) | (simp [*]; done), by repeat (first | exact Drawn0.refl _ | apply Drawn0.step)⟩
                                · rw [if_neg c17] at H
                                  have c17b0 : (a0 == 15) = false := beq_eq_false_iff_ne.mpr c17
                                  have c17b1 : (a0 != 15) = true := bne_iff_ne.mpr c17
                                  by_cases c18 : a0 = 16
                                  · rw [if_pos c18] at H
                                    have c18b0 : (a0 == 16) = true := beq_iff_eq.mpr c18
                                    have c18b1 : (a0 != 16) = false := bne_eq_false_iff_eq.mpr c18
                                    clear c18
                                    obtain rfl := Option.some.inj H
                                    go_enter Try.func56, Try.ntmps56
                                    go_wp2
                                    go_ret
                                    exact ⟨by first | rfl | (simp; done) | (simp [*]; done), by repeat (first | exact Drawn0.refl _ | apply Drawn0.step)⟩
                                  · rw [if_neg c18] at H
                                    have c18b0 : (a0 == 16) = false := beq_eq_false_iff_ne.mpr c18
                                    have c18b1 : (a0 != 16) = true := bne_iff_ne.mpr c18
                                    by_cases c19 : a0 = 17
                                    · rw [if_pos c19] at H
                                      have c19b0 : (a0 == 17) = true := beq_iff_eq.mpr c19
                                      have c19b1 : (a0 != 17) = false := bne_eq_false_iff_eq.mpr c19
                                      clear c19
                                      obtain rfl := Option.some.inj H
                                      go_enter Try.func56, Try.ntmps56
                                      go_wp2
                                      go_ret
                                      exact ⟨by first | rfl | (simp; done) | (simp [*]; done), by repeat (first | exact Drawn0.refl _ | apply Drawn0.step)⟩
                                    · rw [if_neg c19] at H
                                      have c19b0 : (a0 == 17) = false := beq_eq_false_iff_ne.mpr c19
                                      have c19b1 : (a0 != 17) = true := bne_iff_ne.mpr c19
                                      by_cases c20 : a0 = 18
                                      · rw [if_pos c20] at H
                                        have c20b0 : (a0 == 18) = true := beq_iff_eq.mpr c20
                                        have c20b1 : (a0 != 18) = false := bne_eq_false_iff_eq.mpr c20
                                        clear c20
                                        obtain rfl := Option.some.inj H
                                        go_enter Try.func56, Try.ntmps56
                                        go_wp2
                                        go_ret
                                        exact ⟨by first | rfl | (simp; done) | (simp [*]; done), by repeat (first | exact Drawn0.refl _ | apply Drawn0.step)⟩
                                      · rw [if_neg c20] at H
                                        have c20b0 : (a0 == 18) = false := beq_eq_false_iff_ne.mpr c20
                                        have c20b1 : (a0 != 18) = true := bne_iff_ne.mpr c20
                                        obtain rfl := Option.some.inj H
                                        go_enter Try.func56, Try.ntmps56
                                        go_wp2
                                        go_ret
                                        exact ⟨by first | rfl | (simp; done) | (simp [*]; done), by repeat (first | exact Drawn0.refl _ | apply Drawn0.step)⟩

/-! ### resource_ZzPow10: function 40 -/
def resource_ZzPow10.f (a0 : Int) : Option (Int) := (resource_pow10Int64.f a0).bind fun t204 => (some t204)
set_option maxHeartbeats 8000000 in
set_option maxRecDepth 100000 in
theorem resource_ZzPow10.calls (a0 : Int) (r : Int) (w : World) (h : resource_ZzPow10.f a0 = some r) :
    Calls Try.prog 40 #[.int .i64 a0] w fun e w' => e = .returned (.int .i64 r) ∧ Drawn0 w w' := by
  have H : ((resource_pow10Int64.f a0).bind fun t204 => (some t204)) = some r := h
  clear h
  replace H := Option.bind_eq_some_iff.mp H
  obtain ⟨t204, A20, H⟩ := H
  replace H : (some t204) = some r := H
  have A2 := Aside0.mk A20
  clear A20
  obtain rfl := Option.some.inj H
  go_enter Try.func40, Try.ntmps40
  go_wp2_with (first | ((with_reducible refine gate_callee (f := 56) rfl ?_); refine goesL_ (some 4) rfl rfl Try.func56 (by kernel_rfl) rfl #[.int .i64 a0] rfl (by (try simp only [List.map_toArray, List.map_cons, List.map_nil]); first | done | rfl | (simp only [List.length_drop, List.length_take]; rfl)) ?_; (with_reducible refine (resource_pow10Int64.calls a0 t204 _ A2.out).mono ?_); rintro e w' ⟨rfl, ⟨nd, rfl⟩⟩; refine ⟨_, rfl, ?_⟩))
  go_ret
  exact ⟨by first | rfl | (simp; done) | (simp [*]; done), by repeat (first | exact Drawn0.refl _ | apply Drawn0.step)⟩

/-! ### impl_Power10: function 17 -/
def impl_Power10.f (a0 : Int) : Option (Int) := (resource_ZzPow10.f a0).bind fun t205 => (some t205)
set_option maxHeartbeats 8000000 in
set_option maxRecDepth 100000 in
theorem impl_Power10.calls (a0 : Int) (r : Int) (w : World) (h : impl_Power10.f a0 = some r) :
    Calls Try.prog 17 #[.int .i64 a0] w fun e w' => e = .returned (.int .i64 r) ∧ Drawn0 w w' := by
  have H : ((resource_ZzPow10.f a0).bind fun t205 => (some t205)) = some r := h
  clear h
  replace H := Option.bind_eq_some_iff.mp H
  obtain ⟨t205, A20, H⟩ := H
  replace H : (some t205) = some r := H
  have A2 := Aside0.mk A20
  clear A20
  obtain rfl := Option.some.inj H
  go_enter Try.func17, Try.ntmps17
  go_wp2_with (first | ((with_reducible refine gate_callee (f := 40) rfl ?_); refine goesL_ (some 4) rfl rfl Try.func40 (by kernel_rfl) rfl #[.int .i64 a0] rfl (by (try simp only [List.map_toArray, List.map_cons, List.map_nil]); first | done | rfl | (simp only [List.length_drop, List.length_take]; rfl)) ?_; (with_reducible refine (resource_ZzPow10.calls a0 t205 _ A2.out).mono ?_); rintro e w' ⟨rfl, ⟨nd, rfl⟩⟩; refine ⟨_, rfl, ?_⟩))
  go_ret
  exact ⟨by first | rfl | (simp; done) | (simp [*]; done), by repeat (first | exact Drawn0.refl _ | apply Drawn0.step)⟩

end Go.Proofs.Ytpchihkegmihiaa.PFnScaleTens
