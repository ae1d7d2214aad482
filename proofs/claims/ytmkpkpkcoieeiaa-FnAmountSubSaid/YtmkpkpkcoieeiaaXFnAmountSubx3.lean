/- A text of this session: the functions of the law FnAmountSub, by a program that calls the kit's print and lays this session's own contracts of single functions beside. -/
import Derived.Test.YtmkpkpkcoieeiaaXFnAmountSubx0
import Derived.Test.YtmkpkpkcoieeiaaXFnAmountSubx2
namespace Go.Proofs.Ytmkpkpkcoieeiaa.XFnAmountSub
open Go.RowKit Go.Proofs.YtmkpkpkcoieeiaaW.PrintWords Go.Proofs.YtmkpkpkcoieeiaaW.PrintLast Go.Proofs.YtmkpkpkcoieeiaaW.PrintMore
attribute [local go_sem] max2_int min2_int max_two min_two max_three min_three max_four min_four   -- for this text's walks alone
set_option linter.unusedVariables false
set_option linter.unusedSimpArgs false

/-! ### resource_int64MultiplyScale1000: function 37 -/
def resource_int64MultiplyScale1000.j0 : Nat → Int → Bool → Option (Int × Bool)
  | 0, _, _ => none
  | k + 1, x0, x10 => if x10 = true then (some (wrap64 (x0 * 1000), true)) else (if x0 = (-9223372036854775808) then (some (0, false)) else (some (wrap64 (x0 * 1000), ((wrap64 (Int.tdiv (wrap64 (x0 * 1000)) 1000)) == x0))))
def resource_int64MultiplyScale1000.f (k : Nat) (a0 : Int) : Option (Int × Bool) := if a0 = 0 then (resource_int64MultiplyScale1000.j0 k a0 true) else (resource_int64MultiplyScale1000.j0 k a0 (a0 == 1))
theorem resource_int64MultiplyScale1000.mono_l : ∀ k, (∀ y0 y1, LeO (resource_int64MultiplyScale1000.j0 k y0 y1) (resource_int64MultiplyScale1000.j0 (k + 1) y0 y1))
  | 0 => fun _ _ r h => by simp [resource_int64MultiplyScale1000.j0] at h
  | k + 1 => by
    have ih0 := resource_int64MultiplyScale1000.mono_l k
    · intro y0 y1
      unfold resource_int64MultiplyScale1000.j0
      repeat' first
      | (with_reducible exact ih0 _ _)
      | (with_reducible exact LeO.refl _)
      | (with_reducible exact LeO.none _)
      | (with_reducible refine LeO.ite ?_ ?_)
      | (with_reducible refine LeO.bind ?_ (fun _ => ?_))
      | exact ih0 _ _
      | exact LeO.none _
      | refine LeO.ite ?_ ?_
      | refine LeO.bind ?_ (fun _ => ?_)
theorem resource_int64MultiplyScale1000.mono : ∀ a0 k, LeO (resource_int64MultiplyScale1000.f k a0) (resource_int64MultiplyScale1000.f (k + 1) a0) := by
  intro a0 k
  have ih0 := resource_int64MultiplyScale1000.mono_l k
  unfold resource_int64MultiplyScale1000.f
  repeat' first
      | (with_reducible exact ih0 _ _)
      | (with_reducible exact LeO.refl _)
      | (with_reducible exact LeO.none _)
      | (with_reducible refine LeO.ite ?_ ?_)
      | (with_reducible refine LeO.bind ?_ (fun _ => ?_))
      | exact ih0 _ _
      | exact LeO.none _
      | refine LeO.ite ?_ ?_
      | refine LeO.bind ?_ (fun _ => ?_)
set_option maxHeartbeats 8000000 in
set_option maxRecDepth 100000 in
theorem resource_int64MultiplyScale1000.calls (k : Nat) (a0 : Int) (r1 : Int) (r2 : Bool) (w : World) (h : resource_int64MultiplyScale1000.f k a0 = some (r1, r2)) :
    Calls Try.prog 37 #[.int .i64 a0] w fun e w' => e = .returned (.tuple #[.int .i64 r1, .bool r2]) ∧ Drawn0 w w' := by
  have H : (if a0 = 0 then (resource_int64MultiplyScale1000.j0 k a0 true) else (resource_int64MultiplyScale1000.j0 k a0 (a0 == 1))) = some (r1, r2) := h
  clear h
  have HC2 := Aside0.mk H
  clear H
  go_enter Try.func37, Try.ntmps37
  go_upto_region 1 with (fail)
  go_cut [10] (fun v10 wc => ∃ (kq : Nat) (x10_1 : Bool), v10 = .bool x10_1 ∧ Aside0 (resource_int64MultiplyScale1000.j0 kq a0 x10_1 = some (r1, r2)) ∧ Aside0 (kq ≤ k) ∧ Drawn0 w wc)
  case first =>
    have H := HC2.out
    clear HC2
    by_cases c3 : a0 = 0
    · rw [if_pos c3] at H
      have c3b0 : (a0 == 0) = true := beq_iff_eq.mpr c3
      have c3b1 : (a0 != 0) = false := bne_eq_false_iff_eq.mpr c3
      clear c3
      (first | rw [c3b0] | (simp only [i64_w, i32_w]; rw [c3b0]) | skip)
      have H' := Aside0.mk H
      clear H
      go_wp2
      go_meet
      case rel => exact ⟨_, (true), (by first | rfl | (simp; done) | (simp [*]; done)), H', ⟨by first | omega | exact Nat.le_refl _⟩, by repeat (first | exact Drawn0.refl _ | apply Drawn0.step)⟩
    · rw [if_neg c3] at H
      have c3b0 : (a0 == 0) = false := beq_eq_false_iff_ne.mpr c3
      have c3b1 : (a0 != 0) = true := bne_iff_ne.mpr c3
      (first | rw [c3b0] | (simp only [i64_w, i32_w]; rw [c3b0]) | skip)
      have H' := Aside0.mk H
      clear H
      go_wp2
      go_meet
      case rel => exact ⟨_, ((a0 == 1)), (by first | rfl | (simp; done) | (simp [*]; done)), H', ⟨by first | omega | exact Nat.le_refl _⟩, by repeat (first | exact Drawn0.refl _ | apply Drawn0.step)⟩
  case rest =>
    clear HC2
    try clear p2
    try clear c3
    try clear c3b0
    try clear c3b1
    obtain ⟨kq, x10_1, rfl, HA, HJ1, ⟨mc1, rfl⟩⟩ := hcut
    cases kq with
    | zero => exact absurd HA.out (by simp [resource_int64MultiplyScale1000.j0])
    | succ kj1 =>
      have H := HA.out
      clear HA
      simp only [resource_int64MultiplyScale1000.j0] at H
      by_cases c4 : x10_1 = true
      · subst c4
        have H1 : (some (wrap64 (a0 * 1000), true)) = some (r1, r2) := by rw [if_pos rfl] at H; exact H
        clear H
        have H := H1
        clear H1
        simp only [Option.some.injEq, Prod.mk.injEq] at H
        obtain ⟨rfl, rfl⟩ := H
        go_wp2
        go_ret2
        exact ⟨by first | rfl | (simp; done) | (simp [*]; done), by repeat (first | exact Drawn0.refl _ | apply Drawn0.step)⟩
      · replace c4 := Bool.eq_false_iff.mpr c4
        subst c4
        have H1 : (if a0 = (-9223372036854775808) then (some (0, false)) else (some (wrap64 (a0 * 1000), ((wrap64 (Int.tdiv (wrap64 (a0 * 1000)) 1000)) == a0)))) = some (r1, r2) := by rw [if_neg (show ¬ (false = true) by decide)] at H; exact H
        clear H
        have H := H1
        clear H1
        by_cases c5 : a0 = (-9223372036854775808)
        · rw [if_pos c5] at H
          have c5b0 : (a0 == (-9223372036854775808)) = true := beq_iff_eq.mpr c5
          have c5b1 : (a0 != (-9223372036854775808)) = false := bne_eq_false_iff_eq.mpr c5
          clear c5
          simp only [Option.some.injEq, Prod.mk.injEq] at H
          obtain ⟨rfl, rfl⟩ := H
          go_wp2
          go_ret2
          exact ⟨by first | rfl | (simp; done) | (simp [*]; done), by repeat (first | exact Drawn0.refl _ | apply Drawn0.step)⟩
        · rw [if_neg c5] at H
          have c5b0 : (a0 == (-9223372036854775808)) = false := beq_eq_false_iff_ne.mpr c5
          have c5b1 : (a0 != (-9223372036854775808)) = true := bne_iff_ne.mpr c5
          simp only [Option.some.injEq, Prod.mk.injEq] at H
          obtain ⟨rfl, rfl⟩ := H
          go_wp2
          go_ret2
          exact ⟨by first | rfl | (simp; done) | (simp [*]; done), by repeat (first | exact Drawn0.refl _ | apply Drawn0.step)⟩

/-! ### resource_int64MultiplyScale: function 38 -/
def resource_int64MultiplyScale.j0 : Nat → Int → Int → Bool → Option (Int × Bool)
  | 0, _, _, _ => none
  | k + 1, x0, x1, x12 => if x12 = true then (some (wrap64 (x0 * x1), true)) else (if x0 = (-9223372036854775808) then (if x1 = 1 then (if x1 = 0 then (none) else (some (wrap64 (x0 * x1), ((wrap64 (Int.tdiv (wrap64 (x0 * x1)) x1)) == x0)))) else (some (0, false))) else (if x1 = 0 then (none) else (some (wrap64 (x0 * x1), ((wrap64 (Int.tdiv (wrap64 (x0 * x1)) x1)) == x0)))))
def resource_int64MultiplyScale.f (k : Nat) (a0 : Int) (a1 : Int) : Option (Int × Bool) := if a0 = 0 then (resource_int64MultiplyScale.j0 k a0 a1 true) else (resource_int64MultiplyScale.j0 k a0 a1 (a0 == 1))
theorem resource_int64MultiplyScale.mono_l : ∀ k, (∀ y0 y1 y2, LeO (resource_int64MultiplyScale.j0 k y0 y1 y2) (resource_int64MultiplyScale.j0 (k + 1) y0 y1 y2))
  | 0 => fun _ _ _ r h => by simp [resource_int64MultiplyScale.j0] at h
  | k + 1 => by
    have ih0 := resource_int64MultiplyScale.mono_l k
    · intro y0 y1 y2
      unfold resource_int64MultiplyScale.j0
      repeat' first
      | (with_reducible exact ih0 _ _ _)
      | (with_reducible exact LeO.refl _)
      | (with_reducible exact LeO.none _)
      | (with_reducible refine LeO.ite ?_ ?_)
      | (with_reducible refine LeO.bind ?_ (fun _ => ?_))
      | exact ih0 _ _ _
      | exact LeO.none _
      | refine LeO.ite ?_ ?_
      | refine LeO.bind ?_ (fun _ => ?_)
theorem resource_int64MultiplyScale.mono : ∀ a0 a1 k, LeO (resource_int64MultiplyScale.f k a0 a1) (resource_int64MultiplyScale.f (k + 1) a0 a1) := by
  intro a0 a1 k
  have ih0 := resource_int64MultiplyScale.mono_l k
  unfold resource_int64MultiplyScale.f
  repeat' first
      | (with_reducible exact ih0 _ _ _)
      | (with_reducible exact LeO.refl _)
      | (with_reducible exact LeO.none _)
      | (with_reducible refine LeO.ite ?_ ?_)
      | (with_reducible refine LeO.bind ?_ (fun _ => ?_))
      | exact ih0 _ _ _
      | exact LeO.none _
      | refine LeO.ite ?_ ?_
      | refine LeO.bind ?_ (fun _ => ?_)
set_option maxHeartbeats 8000000 in
set_option maxRecDepth 100000 in
theorem resource_int64MultiplyScale.calls (k : Nat) (a0 : Int) (a1 : Int) (r1 : Int) (r2 : Bool) (w : World) (h : resource_int64MultiplyScale.f k a0 a1 = some (r1, r2)) :
    Calls Try.prog 38 #[.int .i64 a0, .int .i64 a1] w fun e w' => e = .returned (.tuple #[.int .i64 r1, .bool r2]) ∧ Drawn0 w w' := by
  have H : (if a0 = 0 then (resource_int64MultiplyScale.j0 k a0 a1 true) else (resource_int64MultiplyScale.j0 k a0 a1 (a0 == 1))) = some (r1, r2) := h
  clear h
  have HC3 := Aside0.mk H
  clear H
  go_enter Try.func38, Try.ntmps38
  go_upto_region 1 with (fail)
  repeat (go_quiet (fail); go_upto_region 1 with (fail))
  go_cut [12] (fun v12 wc => ∃ (kq : Nat) (x12_2 : Bool), v12 = .bool x12_2 ∧ Aside0 (resource_int64MultiplyScale.j0 kq a0 a1 x12_2 = some (r1, r2)) ∧ Aside0 (kq ≤ k) ∧ Drawn0 w wc)
  case first =>
    have H := HC3.out
    clear HC3
    by_cases c4 : a0 = 0
    · rw [if_pos c4] at H
      have c4b0 : (a0 == 0) = true := beq_iff_eq.mpr c4
      have c4b1 : (a0 != 0) = false := bne_eq_false_iff_eq.mpr c4
      clear c4
      (first | rw [c4b0] | (simp only [i64_w, i32_w]; rw [c4b0]) | skip)
      have H' := Aside0.mk H
      clear H
      go_wp2
      repeat (go_quiet (fail); try go_wp2)
      go_meet
      case rel => exact ⟨_, (true), (by first | rfl | (simp; done) | (simp [*]; done)), H', ⟨by first | omega | exact Nat.le_refl _⟩, by repeat (first | exact Drawn0.refl _ | apply Drawn0.step)⟩
    · rw [if_neg c4] at H
      have c4b0 : (a0 == 0) = false := beq_eq_false_iff_ne.mpr c4
      have c4b1 : (a0 != 0) = true := bne_iff_ne.mpr c4
      (first | rw [c4b0] | (simp only [i64_w, i32_w]; rw [c4b0]) | skip)
      have H' := Aside0.mk H
      clear H
      go_wp2
      repeat (go_quiet (fail); try go_wp2)
      go_meet
      case rel => exact ⟨_, ((a0 == 1)), (by first | rfl | (simp; done) | (simp [*]; done)), H', ⟨by first | omega | exact Nat.le_refl _⟩, by repeat (first | exact Drawn0.refl _ | apply Drawn0.step)⟩
  case rest =>
    clear HC3
    try clear p2
    try clear c3
    try clear c4
    try clear c4b0
    try clear c4b1
    obtain ⟨kq, x12_2, rfl, HA, HJ2, ⟨mc2, rfl⟩⟩ := hcut
    cases kq with
    | zero => exact absurd HA.out (by simp [resource_int64MultiplyScale.j0])
    | succ kj2 =>
      have H := HA.out
      clear HA
      simp only [resource_int64MultiplyScale.j0] at H
      by_cases c5 : x12_2 = true
      · subst c5
        have H1 : (some (wrap64 (a0 * a1), true)) = some (r1, r2) := by rw [if_pos rfl] at H; exact H
        clear H
        have H := H1
        clear H1
        simp only [Option.some.injEq, Prod.mk.injEq] at H
        obtain ⟨rfl, rfl⟩ := H
        go_wp2
        repeat (go_quiet (fail); try go_wp2)
        go_ret2
        exact ⟨by first | rfl | (simp; done) | (simp [*]; done), by repeat (first | exact Drawn0.refl _ | apply Drawn0.step)⟩
      · replace c5 := Bool.eq_false_iff.mpr c5
        subst c5
        have H1 : (if a0 = (-9223372036854775808) then (if a1 = 1 then (if a1 = 0 then (none) else (some (wrap64 (a0 * a1), ((wrap64 (Int.tdiv (wrap64 (a0 * a1)) a1)) == a0)))) else (some (0, false))) else (if a1 = 0 then (none) else (some (wrap64 (a0 * a1), ((wrap64 (Int.tdiv (wrap64 (a0 * a1)) a1)) == a0))))) = some (r1, r2) := by rw [if_neg (show ¬ (false = true) by decide)] at H; exact H
        clear H
        have H := H1
        clear H1
        by_cases c6 : a0 = (-9223372036854775808)
        · rw [if_pos c6] at H
          have c6b0 : (a0 == (-9223372036854775808)) = true := beq_iff_eq.mpr c6
          have c6b1 : (a0 != (-9223372036854775808)) = false := bne_eq_false_iff_eq.mpr c6
          clear c6
          by_cases c7 : a1 = 1
          · rw [if_pos c7] at H
            have c7b0 : (a1 == 1) = true := beq_iff_eq.mpr c7
            have c7b1 : (a1 != 1) = false := bne_eq_false_iff_eq.mpr c7
            clear c7
            by_cases c8 : a1 = 0
            · rw [if_pos c8] at H
              exact absurd H (by simp)
            · rw [if_neg c8] at H
              have c8b0 : (a1 == 0) = false := beq_eq_false_iff_ne.mpr c8
              have c8b1 : (a1 != 0) = true := bne_iff_ne.mpr c8
              simp only [Option.some.injEq, Prod.mk.injEq] at H
              obtain ⟨rfl, rfl⟩ := H
              go_wp2
              repeat (go_quiet (fail); try go_wp2)
              go_ret2
              exact ⟨by first | rfl | (simp; done) | (simp [*]; done), by repeat (first | exact Drawn0.refl _ | apply Drawn0.step)⟩
          · rw [if_neg c7] at H
            have c7b0 : (a1 == 1) = false := beq_eq_false_iff_ne.mpr c7
            have c7b1 : (a1 != 1) = true := bne_iff_ne.mpr c7
            simp only [Option.some.injEq, Prod.mk.injEq] at H
            obtain ⟨rfl, rfl⟩ := H
            go_wp2
            repeat (go_quiet (fail); try go_wp2)
            go_ret2
            exact ⟨by first | rfl | (simp; done) | (simp [*]; done), by repeat (first | exact Drawn0.refl _ | apply Drawn0.step)⟩
        · rw [if_neg c6] at H
          have c6b0 : (a0 == (-9223372036854775808)) = false := beq_eq_false_iff_ne.mpr c6
          have c6b1 : (a0 != (-9223372036854775808)) = true := bne_iff_ne.mpr c6
          by_cases c9 : a1 = 0
          · rw [if_pos c9] at H
            exact absurd H (by simp)
          · rw [if_neg c9] at H
            have c9b0 : (a1 == 0) = false := beq_eq_false_iff_ne.mpr c9
            have c9b1 : (a1 != 0) = true := bne_iff_ne.mpr c9
            simp only [Option.some.injEq, Prod.mk.injEq] at H
            obtain ⟨rfl, rfl⟩ := H
            go_wp2
            repeat (go_quiet (fail); try go_wp2)
            go_ret2
            exact ⟨by first | rfl | (simp; done) | (simp [*]; done), by repeat (first | exact Drawn0.refl _ | apply Drawn0.step)⟩

/-! ### resource_positiveScaleInt64: function 33 -/
def resource_positiveScaleInt64.l0 : Nat → Int → Int → Int → Option (Int × Bool)
  | 0, _, _, _ => none
  | k + 1, x1, x6, x8 => if x8 < x1 then ((resource_int64MultiplyScale.f k x6 10).bind fun bt156 => (if bt156.2 = true then (resource_positiveScaleInt64.l0 k x1 bt156.1 (wrap32 (x8 + 1))) else (some (0, false)))) else (some (x6, true))
def resource_positiveScaleInt64.f (k : Nat) (a0 : Int) (a1 : Int) : Option (Int × Bool) := if a1 = 0 then (some (a0, true)) else (if a1 = 1 then ((resource_int64MultiplyScale10.f k a0).bind fun bt146 => (some (bt146.1, bt146.2))) else (if a1 = 2 then ((resource_int64MultiplyScale100.f k a0).bind fun bt148 => (some (bt148.1, bt148.2))) else (if a1 = 3 then ((resource_int64MultiplyScale1000.f k a0).bind fun bt150 => (some (bt150.1, bt150.2))) else (if a1 = 6 then ((resource_int64MultiplyScale.f k a0 1000000).bind fun bt152 => (some (bt152.1, bt152.2))) else (if a1 = 9 then ((resource_int64MultiplyScale.f k a0 1000000000).bind fun bt154 => (some (bt154.1, bt154.2))) else (resource_positiveScaleInt64.l0 k a1 a0 0))))))
theorem resource_positiveScaleInt64.mono_l : ∀ k, (∀ y0 y1 y2, LeO (resource_positiveScaleInt64.l0 k y0 y1 y2) (resource_positiveScaleInt64.l0 (k + 1) y0 y1 y2))
  | 0 => fun _ _ _ r h => by simp [resource_positiveScaleInt64.l0] at h
  | k + 1 => by
    have ih0 := resource_positiveScaleInt64.mono_l k
    · intro y0 y1 y2
      unfold resource_positiveScaleInt64.l0
      repeat' first
      | (with_reducible exact ih0 _ _ _)
      | (with_reducible exact resource_int64MultiplyScale.mono _ _ _)
      | (with_reducible exact resource_int64MultiplyScale10.mono _ _)
      | (with_reducible exact resource_int64MultiplyScale100.mono _ _)
      | (with_reducible exact resource_int64MultiplyScale1000.mono _ _)
      | (with_reducible exact LeO.refl _)
      | (with_reducible exact LeO.none _)
      | (with_reducible refine LeO.ite ?_ ?_)
      | (with_reducible refine LeO.bind ?_ (fun _ => ?_))
      | exact ih0 _ _ _
      | exact resource_int64MultiplyScale.mono _ _ _
      | exact resource_int64MultiplyScale10.mono _ _
      | exact resource_int64MultiplyScale100.mono _ _
      | exact resource_int64MultiplyScale1000.mono _ _
      | exact LeO.none _
      | refine LeO.ite ?_ ?_
      | refine LeO.bind ?_ (fun _ => ?_)
theorem resource_positiveScaleInt64.mono : ∀ a0 a1 k, LeO (resource_positiveScaleInt64.f k a0 a1) (resource_positiveScaleInt64.f (k + 1) a0 a1) := by
  intro a0 a1 k
  have ih0 := resource_positiveScaleInt64.mono_l k
  unfold resource_positiveScaleInt64.f
  repeat' first
      | (with_reducible exact ih0 _ _ _)
      | (with_reducible exact resource_int64MultiplyScale.mono _ _ _)
      | (with_reducible exact resource_int64MultiplyScale10.mono _ _)
      | (with_reducible exact resource_int64MultiplyScale100.mono _ _)
      | (with_reducible exact resource_int64MultiplyScale1000.mono _ _)
      | (with_reducible exact LeO.refl _)
      | (with_reducible exact LeO.none _)
      | (with_reducible refine LeO.ite ?_ ?_)
      | (with_reducible refine LeO.bind ?_ (fun _ => ?_))
      | exact ih0 _ _ _
      | exact resource_int64MultiplyScale.mono _ _ _
      | exact resource_int64MultiplyScale10.mono _ _
      | exact resource_int64MultiplyScale100.mono _ _
      | exact resource_int64MultiplyScale1000.mono _ _
      | exact LeO.none _
      | refine LeO.ite ?_ ?_
      | refine LeO.bind ?_ (fun _ => ?_)
set_option maxHeartbeats 8000000 in
set_option maxRecDepth 100000 in
theorem resource_positiveScaleInt64.calls (k : Nat) (a0 : Int) (a1 : Int) (r1 : Int) (r2 : Bool) (w : World) (h : resource_positiveScaleInt64.f k a0 a1 = some (r1, r2)) :
    Calls Try.prog 33 #[.int .i64 a0, .int .i32 a1] w fun e w' => e = .returned (.tuple #[.int .i64 r1, .bool r2]) ∧ Drawn0 w w' := by
  have H : (if a1 = 0 then (some (a0, true)) else (if a1 = 1 then ((resource_int64MultiplyScale10.f k a0).bind fun bt146 => (some (bt146.1, bt146.2))) else (if a1 = 2 then ((resource_int64MultiplyScale100.f k a0).bind fun bt148 => (some (bt148.1, bt148.2))) else (if a1 = 3 then ((resource_int64MultiplyScale1000.f k a0).bind fun bt150 => (some (bt150.1, bt150.2))) else (if a1 = 6 then ((resource_int64MultiplyScale.f k a0 1000000).bind fun bt152 => (some (bt152.1, bt152.2))) else (if a1 = 9 then ((resource_int64MultiplyScale.f k a0 1000000000).bind fun bt154 => (some (bt154.1, bt154.2))) else (resource_positiveScaleInt64.l0 k a1 a0 0))))))) = some (r1, r2) := h
  clear h
  by_cases c3 : a1 = 0
  · rw [if_pos c3] at H
    have c3b0 : (a1 == 0) = true := beq_iff_eq.mpr c3
    have c3b1 : (a1 != 0) = false := bne_eq_false_iff_eq.mpr c3
    clear c3
    simp only [Option.some.injEq, Prod.mk.injEq] at H
    obtain ⟨rfl, rfl⟩ := H
    go_enter Try.func33, Try.ntmps33
    go_wp2
    go_ret2
    exact ⟨by first | rfl | (simp; done) | (simp [*]; done), by repeat (first | exact Drawn0.refl _ | apply Drawn0.step)⟩
  · rw [if_neg c3] at H
    have c3b0 : (a1 == 0) = false := beq_eq_false_iff_ne.mpr c3
    have c3b1 : (a1 != 0) = true := bne_iff_ne.mpr c3
    by_cases c4 : a1 = 1
    · rw [if_pos c4] at H
      have c4b0 : (a1 == 1) = true := beq_iff_eq.mpr c4
      have c4b1 : (a1 != 1) = false := bne_eq_false_iff_eq.mpr c4
      clear c4
      replace H := Option.bind_eq_some_iff.mp H
      obtain ⟨⟨t146, t147⟩, A50, H⟩ := H
      replace H : (some (t146, t147)) = some (r1, r2) := H
      have A5 := Aside0.mk A50
      clear A50
      simp only [Option.some.injEq, Prod.mk.injEq] at H
      obtain ⟨rfl, rfl⟩ := H
      go_enter Try.func33, Try.ntmps33
      go_wp2_with (first | ((with_reducible refine gate_callee (f := 35) rfl ?_); refine goesL_ (some 30) rfl rfl Try.func35 (by kernel_rfl) rfl #[.int .i64 a0] rfl (by (try simp only [List.map_toArray, List.map_cons, List.map_nil]); first | done | rfl | (simp only [List.length_drop, List.length_take]; rfl)) ?_; (with_reducible refine (resource_int64MultiplyScale10.calls k a0 t146 t147 _ A5.out).mono ?_); rintro e w' ⟨rfl, ⟨nd, rfl⟩⟩; refine ⟨_, rfl, ?_⟩))
      go_ret2
      exact ⟨by first | rfl | (simp; done) | (simp [*]; done), by repeat (first | exact Drawn0.refl _ | apply Drawn0.step)⟩
    · rw [if_neg c4] at H
      have c4b0 : (a1 == 1) = false := beq_eq_false_iff_ne.mpr c4
      have c4b1 : (a1 != 1) = true := bne_iff_ne.mpr c4
      by_cases c6 : a1 = 2
      · rw [if_pos c6] at H
        have c6b0 : (a1 == 2) = true := beq_iff_eq.mpr c6
        have c6b1 : (a1 != 2) = false := bne_eq_false_iff_eq.mpr c6
        clear c6
        replace H := Option.bind_eq_some_iff.mp H
        obtain ⟨⟨t148, t149⟩, A70, H⟩ := H
        replace H : (some (t148, t149)) = some (r1, r2) := H
        have A7 := Aside0.mk A70
        clear A70
        simp only [Option.some.injEq, Prod.mk.injEq] at H
        obtain ⟨rfl, rfl⟩ := H
        go_enter Try.func33, Try.ntmps33
        go_wp2_with (first | ((with_reducible refine gate_callee (f := 36) rfl ?_); refine goesL_ (some 36) rfl rfl Try.func36 (by kernel_rfl) rfl #[.int .i64 a0] rfl (by (try simp only [List.map_toArray, List.map_cons, List.map_nil]); first | done | rfl | (simp only [List.length_drop, List.length_take]; rfl)) ?_; (with_reducible refine (resource_int64MultiplyScale100.calls k a0 t148 t149 _ A7.out).mono ?_); rintro e w' ⟨rfl, ⟨nd, rfl⟩⟩; refine ⟨_, rfl, ?_⟩))
        go_ret2
        exact ⟨by first | rfl | (simp; done) | (simp [*]; done), by repeat (first | exact Drawn0.refl _ | apply Drawn0.step)⟩
      · rw [if_neg c6] at H
        have c6b0 : (a1 == 2) = false := beq_eq_false_iff_ne.mpr c6
        have c6b1 : (a1 != 2) = true := bne_iff_ne.mpr c6
        by_cases c8 : a1 = 3
        · rw [if_pos c8] at H
          have c8b0 : (a1 == 3) = true := beq_iff_eq.mpr c8
          have c8b1 : (a1 != 3) = false := bne_eq_false_iff_eq.mpr c8
          clear c8
          replace H := Option.bind_eq_some_iff.mp H
          obtain ⟨⟨t150, t151⟩, A90, H⟩ := H
          replace H : (some (t150, t151)) = some (r1, r2) := H
          have A9 := Aside0.mk A90
          clear A90
          simp only [Option.some.injEq, Prod.mk.injEq] at H
          obtain ⟨rfl, rfl⟩ := H
          go_enter Try.func33, Try.ntmps33
          go_wp2_with (first | ((with_reducible refine gate_callee (f := 37) rfl ?_); refine goesL_ (some 42) rfl rfl Try.func37 (by kernel_rfl) rfl #[.int .i64 a0] rfl (by (try simp only [List.map_toArray, List.map_cons, List.map_nil]); first | done | rfl | (simp only [List.length_drop, List.length_take]; rfl)) ?_; (with_reducible refine (resource_int64MultiplyScale1000.calls k a0 t150 t151 _ A9.out).mono ?_); rintro e w' ⟨rfl, ⟨nd, rfl⟩⟩; refine ⟨_, rfl, ?_⟩))
          go_ret2
          exact ⟨by first | rfl | (simp; done) | (simp [*]; done), by repeat (first | exact Drawn0.refl _ | apply Drawn0.step)⟩
        · rw [if_neg c8] at H
          have c8b0 : (a1 == 3) = false := beq_eq_false_iff_ne.mpr c8
          have c8b1 : (a1 != 3) = true := bne_iff_ne.mpr c8
          by_cases c10 : a1 = 6
          · rw [if_pos c10] at H
            have c10b0 : (a1 == 6) = true := beq_iff_eq.mpr c10
            have c10b1 : (a1 != 6) = false := bne_eq_false_iff_eq.mpr c10
            clear c10
            replace H := Option.bind_eq_some_iff.mp H
            obtain ⟨⟨t152, t153⟩, A110, H⟩ := H
            replace H : (some (t152, t153)) = some (r1, r2) := H
            have A11 := Aside0.mk A110
            clear A110
            simp only [Option.some.injEq, Prod.mk.injEq] at H
            obtain ⟨rfl, rfl⟩ := H
            go_enter Try.func33, Try.ntmps33
            go_wp2_with (first | ((with_reducible refine gate_callee (f := 38) rfl ?_); refine goesL_ (some 48) rfl rfl Try.func38 (by kernel_rfl) rfl #[.int .i64 a0, .int .i64 1000000] rfl (by (try simp only [List.map_toArray, List.map_cons, List.map_nil]); first | done | rfl | (simp only [List.length_drop, List.length_take]; rfl)) ?_; (with_reducible refine (resource_int64MultiplyScale.calls k a0 1000000 t152 t153 _ A11.out).mono ?_); rintro e w' ⟨rfl, ⟨nd, rfl⟩⟩; refine ⟨_, rfl, ?_⟩))
            go_ret2
            exact ⟨by first | rfl | (simp; done) | (simp [*]; done), by repeat (first | exact Drawn0.refl _ | apply Drawn0.step)⟩
          · rw [if_neg c10] at H
            have c10b0 : (a1 == 6) = false := beq_eq_false_iff_ne.mpr c10
            have c10b1 : (a1 != 6) = true := bne_iff_ne.mpr c10
            by_cases c12 : a1 = 9
            · rw [if_pos c12] at H
              have c12b0 : (a1 == 9) = true := beq_iff_eq.mpr c12
              have c12b1 : (a1 != 9) = false := bne_eq_false_iff_eq.mpr c12
              clear c12
              replace H := Option.bind_eq_some_iff.mp H
              obtain ⟨⟨t154, t155⟩, A130, H⟩ := H
              replace H : (some (t154, t155)) = some (r1, r2) := H
              have A13 := Aside0.mk A130
              clear A130
              simp only [Option.some.injEq, Prod.mk.injEq] at H
              obtain ⟨rfl, rfl⟩ := H
              go_enter Try.func33, Try.ntmps33
              go_wp2_with (first | ((with_reducible refine gate_callee (f := 38) rfl ?_); refine goesL_ (some 54) rfl rfl Try.func38 (by kernel_rfl) rfl #[.int .i64 a0, .int .i64 1000000000] rfl (by (try simp only [List.map_toArray, List.map_cons, List.map_nil]); first | done | rfl | (simp only [List.length_drop, List.length_take]; rfl)) ?_; (with_reducible refine (resource_int64MultiplyScale.calls k a0 1000000000 t154 t155 _ A13.out).mono ?_); rintro e w' ⟨rfl, ⟨nd, rfl⟩⟩; refine ⟨_, rfl, ?_⟩))
              go_ret2
              exact ⟨by first | rfl | (simp; done) | (simp [*]; done), by repeat (first | exact Drawn0.refl _ | apply Drawn0.step)⟩
            · rw [if_neg c12] at H
              have c12b0 : (a1 == 9) = false := beq_eq_false_iff_ne.mpr c12
              have c12b1 : (a1 != 9) = true := bne_iff_ne.mpr c12
              have H' := Aside0.mk H
              clear H
              go_enter Try.func33, Try.ntmps33
              go_wp2
              go_loopg [6, 8] k (fun kq v6 v8 w' => ∃ (x6_1 : Int) (x8_1 : Int), v6 = .int .i64 x6_1 ∧ v8 = .int .i32 x8_1 ∧ Aside0 (resource_positiveScaleInt64.l0 kq a1 x6_1 x8_1 = some (r1, r2)) ∧ Aside0 (kq ≤ k) ∧ Drawn0 w w')
              case atStart => exact ⟨(a0), (0), (by first | rfl | (simp; done) | (simp [*]; done)), (by first | rfl | (simp; done) | (simp [*]; done)), H', ⟨Nat.le_refl _⟩, by repeat (first | exact Drawn0.refl _ | apply Drawn0.step)⟩
              case round =>
                clear H'
                try clear c1
                try clear p2
                try clear c3
                try clear c3b0
                try clear c3b1
                try clear c4
                try clear c4b0
                try clear c4b1
                try clear c6
                try clear c6b0
                try clear c6b1
                try clear c8
                try clear c8b0
                try clear c8b1
                try clear c10
                try clear c10b0
                try clear c10b1
                try clear c12
                try clear c12b0
                try clear c12b1
                obtain ⟨x6_1, x8_1, rfl, rfl, HA, HK1, ⟨m1, rfl⟩⟩ := hrel
                cases gk with
                | zero => exact absurd HA.out (by simp [resource_positiveScaleInt64.l0])
                | succ k1 =>
                  have H := HA.out
                  clear HA
                  simp only [resource_positiveScaleInt64.l0] at H
                  by_cases c14 : x8_1 < a1
                  · rw [if_pos c14] at H
                    have c14b0 : decide (x8_1 < a1) = true := decide_eq_true c14
                    clear c14
                    replace H := Option.bind_eq_some_iff.mp H
                    obtain ⟨⟨t156, t157⟩, A150, H⟩ := H
                    replace H : (if t157 = true then (resource_positiveScaleInt64.l0 k1 a1 t156 (wrap32 (x8_1 + 1))) else (some (0, false))) = some (r1, r2) := H
                    have A15 := Aside0.mk A150
                    clear A150
                    by_cases c16 : t157 = true
                    · subst c16
                      have H1 : (resource_positiveScaleInt64.l0 k1 a1 t156 (wrap32 (x8_1 + 1))) = some (r1, r2) := by rw [if_pos rfl] at H; exact H
                      clear H
                      have H := H1
                      clear H1
                      have H' := Aside0.mk H
                      clear H
                      go_wp2_with (first | ((with_reducible refine gate_callee (f := 38) rfl ?_); refine goesL_ (some 18) rfl rfl Try.func38 (by kernel_rfl) rfl #[.int .i64 x6_1, .int .i64 10] rfl (by (try simp only [List.map_toArray, List.map_cons, List.map_nil]); first | done | rfl | (simp only [List.length_drop, List.length_take]; rfl)) ?_; (with_reducible refine (resource_int64MultiplyScale.calls k1 x6_1 10 t156 true _ A15.out).mono ?_); rintro e w' ⟨rfl, ⟨nd, rfl⟩⟩; refine ⟨_, rfl, ?_⟩))
                      go_roundg k1
                      case measure => have := HK1.out; omega
                      case rel => exact ⟨(t156), (wrap32 (x8_1 + 1)), (by first | rfl | (simp; done) | (simp [*]; done)), (by first | rfl | (simp; done) | (simp [*]; done)), H', ⟨by have := HK1.out; omega⟩, by repeat (first | exact Drawn0.refl _ | apply Drawn0.step)⟩
                    · replace c16 := Bool.eq_false_iff.mpr c16
                      subst c16
                      have H1 : (some (0, false)) = some (r1, r2) := by rw [if_neg (show ¬ (false = true) by decide)] at H; exact H
                      clear H
                      have H := H1
                      clear H1
                      simp only [Option.some.injEq, Prod.mk.injEq] at H
                      obtain ⟨rfl, rfl⟩ := H
                      go_wp2_with (first | ((with_reducible refine gate_callee (f := 38) rfl ?_); refine goesL_ (some 18) rfl rfl Try.func38 (by kernel_rfl) rfl #[.int .i64 x6_1, .int .i64 10] rfl (by (try simp only [List.map_toArray, List.map_cons, List.map_nil]); first | done | rfl | (simp only [List.length_drop, List.length_take]; rfl)) ?_; (with_reducible refine (resource_int64MultiplyScale.calls k1 x6_1 10 t156 false _ A15.out).mono ?_); rintro e w' ⟨rfl, ⟨nd, rfl⟩⟩; refine ⟨_, rfl, ?_⟩))
                      go_ret2
                      exact ⟨by first | rfl | (simp; done) | (simp [*]; done), by repeat (first | exact Drawn0.refl _ | apply Drawn0.step)⟩
                  · rw [if_neg c14] at H
                    have c14b0 : decide (x8_1 < a1) = false := decide_eq_false c14
                    clear c14
                    simp only [Option.some.injEq, Prod.mk.injEq] at H
                    obtain ⟨rfl, rfl⟩ := H
                    go_wp2
                    go_ret2
                    exact ⟨by first | rfl | (simp; done) | (simp [*]; done), by repeat (first | exact Drawn0.refl _ | apply Drawn0.step)⟩

/-- A state of type 47 at block g of W; what its slices lead to came in by w0. -/
def IsS47 (w0 W : World) (g : Nat) (f0 : Int) (f1 : Int) : Prop := W.heap[g]? = some (.cells #[.int .i64 f0, .int .i32 f1] 47 (0, 0)) ∧ w0.heap.size ≤ g
theorem IsS47.grown {w0 W : World} {g : Nat} {f0 : Int} {f1 : Int} {W1 : World} {row : Option Nat} (h : IsS47 w0 W g f0 f1) (hw : W.grownBy W1 row) (hne : some g ≠ row) : IsS47 w0 W1 g f0 f1 := by
  obtain ⟨hb, hg⟩ := h
  exact ⟨blk_grown hb hw hne, hg⟩
theorem IsS47.own_neN {w0 W : World} {g : Nat} {f0 : Int} {f1 : Int} {α : Type} {d : Kd α} {e : Nat} {base : Nat} {ok : Nat → Prop} {v : Value} {xs : List α} (h : IsS47 w0 W g f0 f1) (ho : Kd.N d e W base ok v xs) (ht : e ≠ 47) : some g ≠ v.ownBlock := by
  obtain ⟨hb, hg⟩ := h
  exact Kd.N_ne ho hb ht
theorem IsS47.fresh {w0 W : World} {g : Nat} {f0 : Int} {f1 : Int} (h : IsS47 w0 W g f0 f1) : ∀ k, W.heap.size ≤ k → k ≠ g := by
  obtain ⟨hb, hg⟩ := h
  exact Kd.freshB hb
theorem IsS47.kept {w0 W : World} {g : Nat} {f0 : Int} {f1 : Int} {W1 : World} {S : Nat → Prop} (h : IsS47 w0 W g f0 f1) (hk : Kept W W1 S) (hne : ¬ S g) : IsS47 w0 W1 g f0 f1 := by
  obtain ⟨hb, hg⟩ := h
  exact ⟨blk_kept hb hk hne, hg⟩
theorem IsS47.below {w0 W : World} {g : Nat} {f0 : Int} {f1 : Int} {W1 : World} (h : IsS47 w0 W g f0 f1) (hw : Below W.heap.size W W1) : IsS47 w0 W1 g f0 f1 := h.grown (grown_of_below hw none) (by simp)
theorem IsS47.alloc {w0 W : World} {g : Nat} {f0 : Int} {f1 : Int} (h : IsS47 w0 W g f0 f1) (o : Obj) : IsS47 w0 (W.alloc o) g f0 f1 := h.below (below_alloc (Below.refl _ _) o)
theorem IsS47.drewN {w0 W : World} {g : Nat} {f0 : Int} {f1 : Int} (h : IsS47 w0 W g f0 f1) (m : Nat) : IsS47 w0 (W.drewN m) g f0 f1 := h
theorem IsS47.drew {w0 W : World} {g : Nat} {f0 : Int} {f1 : Int} (h : IsS47 w0 W g f0 f1) : IsS47 w0 W.drew g f0 f1 := h
theorem IsS47.at_ {w0 W : World} {g : Nat} {f0 : Int} {f1 : Int} {w' : World} {m : Nat} (hq : W.drewN m = w') (h : IsS47 w0 W g f0 f1) : IsS47 w0 w' g f0 f1 := by subst hq; exact IsS47.drewN h m
theorem IsS47.apart {w0 W : World} {g : Nat} {f0 : Int} {f1 : Int} {α : Type} {d : Kd α} {e : Nat} {base : Nat} {ok : Nat → Prop} {v : Value} {xs : List α} (h : IsS47 w0 W g f0 f1) (ho : d.R e W base ok v xs) (ht : ∀ q, q ∈ e :: d.E → q ≠ 47) : d.R e W base (fun k => ok k ∧ k ≠ g) v xs := by
  obtain ⟨hb, hg⟩ := h
  exact Kd.R_types ho hb ht
theorem IsS47.own_ne {w0 W : World} {g : Nat} {f0 : Int} {f1 : Int} {α : Type} {d : Kd α} {e : Nat} {base : Nat} {ok : Nat → Prop} {v : Value} {xs : List α} (h : IsS47 w0 W g f0 f1) (ho : d.R e W base ok v xs) (ht : e ≠ 47) : some g ≠ v.ownBlock := by
  obtain ⟨hb, hg⟩ := h
  exact Kd.R_ne ho hb ht
theorem IsS47.apartQ {w0 W : World} {g : Nat} {f0 : Int} {f1 : Int} {α : Type} {d : Kd α} {e : Nat} {base : Nat} {ok : Nat → Prop} {v : Value} {xs : List α} (h : IsS47 w0 W g f0 f1) (ho : d.Q e W base ok v xs) (ht : ∀ q, q ∈ e :: d.E → q ≠ 47) : d.Q e W base (fun k => ok k ∧ k ≠ g) v xs := by
  obtain ⟨hb, hg⟩ := h
  exact Kd.Q_types ho hb ht
theorem IsS47.own_neQ {w0 W : World} {g : Nat} {f0 : Int} {f1 : Int} {α : Type} {d : Kd α} {e : Nat} {base : Nat} {ok : Nat → Prop} {v : Value} {xs : List α} (h : IsS47 w0 W g f0 f1) (ho : d.Q e W base ok v xs) (ht : e ≠ 47) : some g ≠ v.ownBlock := by
  obtain ⟨hb, hg⟩ := h
  exact Kd.Q_ne ho hb ht
theorem IsS47.apartS {w0 W : World} {g : Nat} {f0 : Int} {f1 : Int} {α : Type} {d : Kd α} {e : Nat} {base : Nat} {ok : Nat → Prop} {v : Value} {xs : List α} (h : IsS47 w0 W g f0 f1) (ho : d.S e W base ok v xs) (ht : ∀ q, q ∈ e :: d.E → q ≠ 47) : d.S e W base (fun k => ok k ∧ k ≠ g) v xs := by
  obtain ⟨hb, hg⟩ := h
  exact Kd.S_types ho hb ht
theorem IsS47.own_neS {w0 W : World} {g : Nat} {f0 : Int} {f1 : Int} {α : Type} {d : Kd α} {e : Nat} {base : Nat} {ok : Nat → Prop} {v : Value} {xs : List α} (h : IsS47 w0 W g f0 f1) (ho : d.S e W base ok v xs) (ht : e ≠ 47) : some g ≠ v.ownBlock := by
  obtain ⟨hb, hg⟩ := h
  exact Kd.S_ne ho hb ht
theorem IsS47.lt {w0 W : World} {g : Nat} {f0 : Int} {f1 : Int} (h : IsS47 w0 W g f0 f1) : g < W.heap.size := by
  obtain ⟨hb, hg⟩ := h
  exact blk_lt hb
theorem IsS47.ge {w0 W : World} {g : Nat} {f0 : Int} {f1 : Int} (h : IsS47 w0 W g f0 f1) : w0.heap.size ≤ g := by
  obtain ⟨hb, hg⟩ := h
  exact hg
theorem IsS47.ne_blk {w0 W : World} {g : Nat} {f0 : Int} {f1 : Int} {a : Nat} {cs : Array Value} {t : TypeId} {fr : Nat × Nat} (h : IsS47 w0 W g f0 f1) (hb2 : W.heap[a]? = some (.cells cs t fr)) (ht : t ≠ 47) : g ≠ a := by
  obtain ⟨hb, hg⟩ := h
  rintro rfl
  rw [hb] at hb2
  injection hb2 with hb2
  injection hb2 with _ ht2
  exact ht ht2.symm
theorem IsS47.far {w0 W : World} {g : Nat} {f0 : Int} {f1 : Int} {p : Addr} (h : IsS47 w0 W g f0 f1) (hne : g ≠ p.block) (u : Value) : IsS47 w0 (W.setCell p u) g f0 f1 := by
  obtain ⟨hb, hg⟩ := h
  exact ⟨blk_far hb hne u, hg⟩
theorem cellS47_0 {W : World} {g : Nat} {f0 : Int} {f1 : Int} (h : W.heap[g]? = some (.cells #[.int .i64 f0, .int .i32 f1] 47 (0, 0))) : W.cell? ⟨g, 0, none⟩ = some (.int .i64 f0) := (blk_cell h 0).trans rfl
theorem IsS47.set_0 {w0 W : World} {g : Nat} {f0 : Int} {f1 : Int} (h : IsS47 w0 W g f0 f1) (x : Int) : IsS47 w0 (W.setCell ⟨g, 0, none⟩ (.int .i64 x)) g x f1 := by
  obtain ⟨hb, hg⟩ := h
  exact ⟨by simpa using blk_set hb 0 (.int .i64 x), hg⟩
theorem cellS47_1 {W : World} {g : Nat} {f0 : Int} {f1 : Int} (h : W.heap[g]? = some (.cells #[.int .i64 f0, .int .i32 f1] 47 (0, 0))) : W.cell? ⟨g, 1, none⟩ = some (.int .i32 f1) := (blk_cell h 1).trans rfl
theorem IsS47.set_1 {w0 W : World} {g : Nat} {f0 : Int} {f1 : Int} (h : IsS47 w0 W g f0 f1) (x : Int) : IsS47 w0 (W.setCell ⟨g, 1, none⟩ (.int .i32 x)) g f0 x := by
  obtain ⟨hb, hg⟩ := h
  exact ⟨by simpa using blk_set hb 1 (.int .i32 x), hg⟩
theorem IsS47.new (w0 W : World) (f0 : Int) (f1 : Int) (hB : Below w0.heap.size w0 W) : IsS47 w0 (W.alloc (.cells #[.int .i64 f0, .int .i32 f1] 47)) W.heap.size f0 f1 := ⟨by simpa using heap_alloc_new W _, hB.size⟩

/-! ### resource_int64Amount_Add: function 27 -/
def resource_int64Amount_Add.f (k : Nat) (s0_0 : Int) (s0_1 : Int) (a1_0 : Int) (a1_1 : Int) : Option (Bool × Int × Int) := if a1_0 = 0 then (some (true, s0_0, s0_1)) else (if s0_0 = 0 then (some (true, a1_0, a1_1)) else (if s0_1 = a1_1 then ((resource_int64Add.f k s0_0 a1_0).bind fun bt159 => (if bt159.2 = true then (some (true, bt159.1, s0_1)) else (some (false, s0_0, s0_1)))) else (if s0_1 > a1_1 then ((resource_positiveScaleInt64.f k s0_0 (wrap32 (s0_1 - a1_1))).bind fun bt161 => (if bt161.2 = true then ((resource_int64Add.f k bt161.1 a1_0).bind fun bt163 => (if bt163.2 = true then (some (true, bt163.1, a1_1)) else (some (false, s0_0, s0_1)))) else (some (false, s0_0, s0_1)))) else ((resource_positiveScaleInt64.f k a1_0 (wrap32 (a1_1 - s0_1))).bind fun bt165 => (if bt165.2 = true then ((resource_int64Add.f k s0_0 bt165.1).bind fun bt167 => (if bt167.2 = true then (some (true, bt167.1, s0_1)) else (some (false, s0_0, s0_1)))) else (some (false, s0_0, s0_1)))))))
theorem resource_int64Amount_Add.mono : ∀ a0 a1 a2 a3 k, LeO (resource_int64Amount_Add.f k a0 a1 a2 a3) (resource_int64Amount_Add.f (k + 1) a0 a1 a2 a3) := by
  intro a0 a1 a2 a3 k
  unfold resource_int64Amount_Add.f
  repeat' first
      | (with_reducible exact resource_int64Add.mono _ _ _)
      | (with_reducible exact resource_positiveScaleInt64.mono _ _ _)
      | (with_reducible exact LeO.refl _)
      | (with_reducible exact LeO.none _)
      | (with_reducible refine LeO.ite ?_ ?_)
      | (with_reducible refine LeO.bind ?_ (fun _ => ?_))
      | exact resource_int64Add.mono _ _ _
      | exact resource_positiveScaleInt64.mono _ _ _
      | exact LeO.none _
      | refine LeO.ite ?_ ?_
      | refine LeO.bind ?_ (fun _ => ?_)
set_option maxHeartbeats 8000000 in
set_option maxRecDepth 100000 in
theorem resource_int64Amount_Add.calls (k : Nat) (g : Nat) (s0_0 : Int) (s0_1 : Int) (a1_0 : Int) (a1_1 : Int) (r1 : Bool) (r2 : Int) (r3 : Int) (w0 w : World) (hI : IsS47 w0 w g s0_0 s0_1) (hB : Below w0.heap.size w0 w) (h : resource_int64Amount_Add.f k s0_0 s0_1 a1_0 a1_1 = some (r1, r2, r3)) :
    Calls Try.prog 27 #[.pointer (some ⟨g, 0, none⟩), .agg #[.int .i64 a1_0, .int .i32 a1_1]] w fun e w' => e = .returned (.bool r1) ∧ IsS47 w0 w' g r2 r3 ∧ Below w0.heap.size w0 w' ∧ KeepBut w w' g none := by
  have hu47 := Try.underlying47
  have HI0 := Aside0.mk hI
  have HK := Aside0.mk (KeepBut.refl w g none)
  have HL := Aside0.mk hB.size
  clear hI
  have HW0 := Aside0.mk hB.size
  have HB := Aside0.mk hB
  clear hB
  have H : (if a1_0 = 0 then (some (true, s0_0, s0_1)) else (if s0_0 = 0 then (some (true, a1_0, a1_1)) else (if s0_1 = a1_1 then ((resource_int64Add.f k s0_0 a1_0).bind fun bt159 => (if bt159.2 = true then (some (true, bt159.1, s0_1)) else (some (false, s0_0, s0_1)))) else (if s0_1 > a1_1 then ((resource_positiveScaleInt64.f k s0_0 (wrap32 (s0_1 - a1_1))).bind fun bt161 => (if bt161.2 = true then ((resource_int64Add.f k bt161.1 a1_0).bind fun bt163 => (if bt163.2 = true then (some (true, bt163.1, a1_1)) else (some (false, s0_0, s0_1)))) else (some (false, s0_0, s0_1)))) else ((resource_positiveScaleInt64.f k a1_0 (wrap32 (a1_1 - s0_1))).bind fun bt165 => (if bt165.2 = true then ((resource_int64Add.f k s0_0 bt165.1).bind fun bt167 => (if bt167.2 = true then (some (true, bt167.1, s0_1)) else (some (false, s0_0, s0_1)))) else (some (false, s0_0, s0_1)))))))) = some (r1, r2, r3) := h
  clear h
  by_cases c3 : a1_0 = 0
  · rw [if_pos c3] at H
    have c3b0 : (a1_0 == 0) = true := beq_iff_eq.mpr c3
    have c3b1 : (a1_0 != 0) = false := bne_eq_false_iff_eq.mpr c3
    clear c3
    simp only [Option.some.injEq, Prod.mk.injEq] at H
    obtain ⟨rfl, rfl, rfl⟩ := H
    go_enter Try.func27, Try.ntmps27
    go_wp2_with (first | ((with_reducible refine gate_dst (N := 3) rfl ?_); refine box_event ?hg (N := 3) ?hd (cs := #[.int .i64 a1_0, .int .i32 a1_1]) (t := 47) ?hr ?_; (case hd => rfl); (case hg => rfl); (case hr => first | (go_simp; done) | (go_simp; rfl)); intro gb158 hg w4 hbox hb; have n0_ := Aside0.mk (IsS47.below (by repeat (first | (with_reducible first | exact HI0.out | apply IsS47.alloc | apply IsS47.drewN | apply IsS47.drew | apply IsS47.set_0 | apply IsS47.set_1) | exact HI0.out)) hb); have n1_ := Aside0.mk (KeepBut.trans (by repeat (first | (with_reducible first | exact HK.out | apply KeepBut.set_ | apply keep_drewN | apply keep_drew | apply keep_alloc) | exact HK.out)) (KeepBut.of_below hb g none) (.inl rfl)); have n2_ := Aside0.mk (below_step (by repeat (first | (with_reducible first | exact HB.out | apply below_alloc | apply pw_below_drewN | apply below_drew1 | refine below_set ?_ (IsS47.ge HI0.out)) | exact HB.out)) hb); have n3_ := Aside0.mk (hbox); have n4_ := Aside0.mk ((by rw [hg]; exact (keep_size (w := w) (g := g) (row := none) (by repeat (first | (with_reducible first | exact HK.out | apply KeepBut.set_ | apply keep_drewN | apply keep_drew | apply keep_alloc) | exact HK.out))) : w.heap.size ≤ gb158)); have n5_ := Aside0.mk ((Nat.le_trans HW0.out (by rw [hg]; exact (keep_size (w := w) (g := g) (row := none) (by repeat (first | (with_reducible first | exact HK.out | apply KeepBut.set_ | apply keep_drewN | apply keep_drew | apply keep_alloc) | exact HK.out))) : w.heap.size ≤ gb158) : w0.heap.size ≤ gb158)); have n6_ := Aside0.mk ((by rw [hg]; exact Nat.ne_of_lt (IsS47.lt (show IsS47 w0 _ g s0_0 s0_1 from by repeat (first | (with_reducible first | exact HI0.out | apply IsS47.alloc | apply IsS47.drewN | apply IsS47.drew | apply IsS47.set_0 | apply IsS47.set_1) | exact HI0.out))) : g ≠ gb158)); have n7_ := Aside0.mk ((by rw [hg]; exact Nat.ne_of_gt (IsS47.lt (show IsS47 w0 _ g s0_0 s0_1 from by repeat (first | (with_reducible first | exact HI0.out | apply IsS47.alloc | apply IsS47.drewN | apply IsS47.drew | apply IsS47.set_0 | apply IsS47.set_1) | exact HI0.out))) : gb158 ≠ g)); clear HI0; clear HK; clear HB; have HI0 := n0_; have HK := n1_; have HB := n2_; have BK158 := n3_; have GW158 := n4_; have GE158 := n5_; have NB0_158 := n6_; have NB158_0 := n7_; clear n0_ n1_ n2_ n3_ n4_ n5_ n6_ n7_; clear hb hbox hg; have hnb5 := NB158_0.out; have hnc5 := NB0_158.out; have hcz6_0 : w4.cell? ⟨gb158, 0, none⟩ = some (.int .i64 a1_0) := (blk_cell BK158.out 0).trans rfl; have hcz6_1 : w4.cell? ⟨gb158, 1, none⟩ = some (.int .i32 a1_1) := (blk_cell BK158.out 1).trans rfl; have hfz6_0 := blk_frozen BK158.out 0; have hfz6_1 := blk_frozen BK158.out 1))
    repeat (go_quiet (first | ((with_reducible refine gate_dst (N := 3) rfl ?_); refine box_event ?hg (N := 3) ?hd (cs := #[.int .i64 a1_0, .int .i32 a1_1]) (t := 47) ?hr ?_; (case hd => rfl); (case hg => rfl); (case hr => first | (go_simp; done) | (go_simp; rfl)); intro gb158 hg w4 hbox hb; have n0_ := Aside0.mk (IsS47.below (by repeat (first | (with_reducible first | exact HI0.out | apply IsS47.alloc | apply IsS47.drewN | apply IsS47.drew | apply IsS47.set_0 | apply IsS47.set_1) | exact HI0.out)) hb); have n1_ := Aside0.mk (KeepBut.trans (by repeat (first | (with_reducible first | exact HK.out | apply KeepBut.set_ | apply keep_drewN | apply keep_drew | apply keep_alloc) | exact HK.out)) (KeepBut.of_below hb g none) (.inl rfl)); have n2_ := Aside0.mk (below_step (by repeat (first | (with_reducible first | exact HB.out | apply below_alloc | apply pw_below_drewN | apply below_drew1 | refine below_set ?_ (IsS47.ge HI0.out)) | exact HB.out)) hb); have n3_ := Aside0.mk (hbox); have n4_ := Aside0.mk ((by rw [hg]; exact (keep_size (w := w) (g := g) (row := none) (by repeat (first | (with_reducible first | exact HK.out | apply KeepBut.set_ | apply keep_drewN | apply keep_drew | apply keep_alloc) | exact HK.out))) : w.heap.size ≤ gb158)); have n5_ := Aside0.mk ((Nat.le_trans HW0.out (by rw [hg]; exact (keep_size (w := w) (g := g) (row := none) (by repeat (first | (with_reducible first | exact HK.out | apply KeepBut.set_ | apply keep_drewN | apply keep_drew | apply keep_alloc) | exact HK.out))) : w.heap.size ≤ gb158) : w0.heap.size ≤ gb158)); have n6_ := Aside0.mk ((by rw [hg]; exact Nat.ne_of_lt (IsS47.lt (show IsS47 w0 _ g s0_0 s0_1 from by repeat (first | (with_reducible first | exact HI0.out | apply IsS47.alloc | apply IsS47.drewN | apply IsS47.drew | apply IsS47.set_0 | apply IsS47.set_1) | exact HI0.out))) : g ≠ gb158)); have n7_ := Aside0.mk ((by rw [hg]; exact Nat.ne_of_gt (IsS47.lt (show IsS47 w0 _ g s0_0 s0_1 from by repeat (first | (with_reducible first | exact HI0.out | apply IsS47.alloc | apply IsS47.drewN | apply IsS47.drew | apply IsS47.set_0 | apply IsS47.set_1) | exact HI0.out))) : gb158 ≠ g)); clear HI0; clear HK; clear HB; have HI0 := n0_; have HK := n1_; have HB := n2_; have BK158 := n3_; have GW158 := n4_; have GE158 := n5_; have NB0_158 := n6_; have NB158_0 := n7_; clear n0_ n1_ n2_ n3_ n4_ n5_ n6_ n7_; clear hb hbox hg; have hnb5 := NB158_0.out; have hnc5 := NB0_158.out; have hcz6_0 : w4.cell? ⟨gb158, 0, none⟩ = some (.int .i64 a1_0) := (blk_cell BK158.out 0).trans rfl; have hcz6_1 : w4.cell? ⟨gb158, 1, none⟩ = some (.int .i32 a1_1) := (blk_cell BK158.out 1).trans rfl; have hfz6_0 := blk_frozen BK158.out 0; have hfz6_1 := blk_frozen BK158.out 1)); try go_wp2_with (first | ((with_reducible refine gate_dst (N := 3) rfl ?_); refine box_event ?hg (N := 3) ?hd (cs := #[.int .i64 a1_0, .int .i32 a1_1]) (t := 47) ?hr ?_; (case hd => rfl); (case hg => rfl); (case hr => first | (go_simp; done) | (go_simp; rfl)); intro gb158 hg w4 hbox hb; have n0_ := Aside0.mk (IsS47.below (by repeat (first | (with_reducible first | exact HI0.out | apply IsS47.alloc | apply IsS47.drewN | apply IsS47.drew | apply IsS47.set_0 | apply IsS47.set_1) | exact HI0.out)) hb); have n1_ := Aside0.mk (KeepBut.trans (by repeat (first | (with_reducible first | exact HK.out | apply KeepBut.set_ | apply keep_drewN | apply keep_drew | apply keep_alloc) | exact HK.out)) (KeepBut.of_below hb g none) (.inl rfl)); have n2_ := Aside0.mk (below_step (by repeat (first | (with_reducible first | exact HB.out | apply below_alloc | apply pw_below_drewN | apply below_drew1 | refine below_set ?_ (IsS47.ge HI0.out)) | exact HB.out)) hb); have n3_ := Aside0.mk (hbox); have n4_ := Aside0.mk ((by rw [hg]; exact (keep_size (w := w) (g := g) (row := none) (by repeat (first | (with_reducible first | exact HK.out | apply KeepBut.set_ | apply keep_drewN | apply keep_drew | apply keep_alloc) | exact HK.out))) : w.heap.size ≤ gb158)); have n5_ := Aside0.mk ((Nat.le_trans HW0.out (by rw [hg]; exact (keep_size (w := w) (g := g) (row := none) (by repeat (first | (with_reducible first | exact HK.out | apply KeepBut.set_ | apply keep_drewN | apply keep_drew | apply keep_alloc) | exact HK.out))) : w.heap.size ≤ gb158) : w0.heap.size ≤ gb158)); have n6_ := Aside0.mk ((by rw [hg]; exact Nat.ne_of_lt (IsS47.lt (show IsS47 w0 _ g s0_0 s0_1 from by repeat (first | (with_reducible first | exact HI0.out | apply IsS47.alloc | apply IsS47.drewN | apply IsS47.drew | apply IsS47.set_0 | apply IsS47.set_1) | exact HI0.out))) : g ≠ gb158)); have n7_ := Aside0.mk ((by rw [hg]; exact Nat.ne_of_gt (IsS47.lt (show IsS47 w0 _ g s0_0 s0_1 from by repeat (first | (with_reducible first | exact HI0.out | apply IsS47.alloc | apply IsS47.drewN | apply IsS47.drew | apply IsS47.set_0 | apply IsS47.set_1) | exact HI0.out))) : gb158 ≠ g)); clear HI0; clear HK; clear HB; have HI0 := n0_; have HK := n1_; have HB := n2_; have BK158 := n3_; have GW158 := n4_; have GE158 := n5_; have NB0_158 := n6_; have NB158_0 := n7_; clear n0_ n1_ n2_ n3_ n4_ n5_ n6_ n7_; clear hb hbox hg; have hnb5 := NB158_0.out; have hnc5 := NB0_158.out; have hcz6_0 : w4.cell? ⟨gb158, 0, none⟩ = some (.int .i64 a1_0) := (blk_cell BK158.out 0).trans rfl; have hcz6_1 : w4.cell? ⟨gb158, 1, none⟩ = some (.int .i32 a1_1) := (blk_cell BK158.out 1).trans rfl; have hfz6_0 := blk_frozen BK158.out 0; have hfz6_1 := blk_frozen BK158.out 1)))
    go_ret
    exact ⟨by first | rfl | (simp [errW_none, errW_some] <;> rfl) | (simp [*, errW_none, errW_some] <;> rfl), by repeat (first | (with_reducible first | exact HI0.out | apply IsS47.alloc | apply IsS47.drewN | apply IsS47.drew | apply IsS47.set_0 | apply IsS47.set_1 | refine IsS47.far ?_ NB0_158.out _) | exact HI0.out), by repeat (first | (with_reducible first | exact HB.out | apply below_alloc | apply pw_below_drewN | apply below_drew1 | refine below_set ?_ (IsS47.ge HI0.out) | refine below_set ?_ GE158.out) | exact HB.out), by repeat (first | (with_reducible first | exact HK.out | apply KeepBut.set_ | apply keep_drewN | apply keep_drew | apply keep_alloc | refine keep_far ?_ GW158.out _) | exact HK.out)⟩
  · rw [if_neg c3] at H
    have c3b0 : (a1_0 == 0) = false := beq_eq_false_iff_ne.mpr c3
    have c3b1 : (a1_0 != 0) = true := bne_iff_ne.mpr c3
    by_cases c7 : s0_0 = 0
    · rw [if_pos c7] at H
      have c7b0 : (s0_0 == 0) = true := beq_iff_eq.mpr c7
      have c7b1 : (s0_0 != 0) = false := bne_eq_false_iff_eq.mpr c7
      clear c7
      simp only [Option.some.injEq, Prod.mk.injEq] at H
      obtain ⟨rfl, rfl, rfl⟩ := H
      go_enter Try.func27, Try.ntmps27
      go_wp2_with (first | ((with_reducible refine gate_dst (N := 3) rfl ?_); refine box_event ?hg (N := 3) ?hd (cs := #[.int .i64 a1_0, .int .i32 a1_1]) (t := 47) ?hr ?_; (case hd => rfl); (case hg => rfl); (case hr => first | (go_simp; done) | (go_simp; rfl)); intro gb158 hg w8 hbox hb; have n0_ := Aside0.mk (IsS47.below (by repeat (first | (with_reducible first | exact HI0.out | apply IsS47.alloc | apply IsS47.drewN | apply IsS47.drew | apply IsS47.set_0 | apply IsS47.set_1) | exact HI0.out)) hb); have n1_ := Aside0.mk (KeepBut.trans (by repeat (first | (with_reducible first | exact HK.out | apply KeepBut.set_ | apply keep_drewN | apply keep_drew | apply keep_alloc) | exact HK.out)) (KeepBut.of_below hb g none) (.inl rfl)); have n2_ := Aside0.mk (below_step (by repeat (first | (with_reducible first | exact HB.out | apply below_alloc | apply pw_below_drewN | apply below_drew1 | refine below_set ?_ (IsS47.ge HI0.out)) | exact HB.out)) hb); have n3_ := Aside0.mk (hbox); have n4_ := Aside0.mk ((by rw [hg]; exact (keep_size (w := w) (g := g) (row := none) (by repeat (first | (with_reducible first | exact HK.out | apply KeepBut.set_ | apply keep_drewN | apply keep_drew | apply keep_alloc) | exact HK.out))) : w.heap.size ≤ gb158)); have n5_ := Aside0.mk ((Nat.le_trans HW0.out (by rw [hg]; exact (keep_size (w := w) (g := g) (row := none) (by repeat (first | (with_reducible first | exact HK.out | apply KeepBut.set_ | apply keep_drewN | apply keep_drew | apply keep_alloc) | exact HK.out))) : w.heap.size ≤ gb158) : w0.heap.size ≤ gb158)); have n6_ := Aside0.mk ((by rw [hg]; exact Nat.ne_of_lt (IsS47.lt (show IsS47 w0 _ g s0_0 s0_1 from by repeat (first | (with_reducible first | exact HI0.out | apply IsS47.alloc | apply IsS47.drewN | apply IsS47.drew | apply IsS47.set_0 | apply IsS47.set_1) | exact HI0.out))) : g ≠ gb158)); have n7_ := Aside0.mk ((by rw [hg]; exact Nat.ne_of_gt (IsS47.lt (show IsS47 w0 _ g s0_0 s0_1 from by repeat (first | (with_reducible first | exact HI0.out | apply IsS47.alloc | apply IsS47.drewN | apply IsS47.drew | apply IsS47.set_0 | apply IsS47.set_1) | exact HI0.out))) : gb158 ≠ g)); clear HI0; clear HK; clear HB; have HI0 := n0_; have HK := n1_; have HB := n2_; have BK158 := n3_; have GW158 := n4_; have GE158 := n5_; have NB0_158 := n6_; have NB158_0 := n7_; clear n0_ n1_ n2_ n3_ n4_ n5_ n6_ n7_; clear hb hbox hg; have hnb9 := NB158_0.out; have hnc9 := NB0_158.out; have hcz10_0 : w8.cell? ⟨gb158, 0, none⟩ = some (.int .i64 a1_0) := (blk_cell BK158.out 0).trans rfl; have hcz10_1 : w8.cell? ⟨gb158, 1, none⟩ = some (.int .i32 a1_1) := (blk_cell BK158.out 1).trans rfl; have hfz10_0 := blk_frozen BK158.out 0; have hfz10_1 := blk_frozen BK158.out 1; obtain ⟨HGz11, hgz11⟩ := HI0.out; have hcz11_0 := cellS47_0 HGz11; have hcz11_1 := cellS47_1 HGz11; have hfz11_0 := blk_frozen HGz11 0; have hfz11_1 := blk_frozen HGz11 1; clear HGz11 hgz11))
      repeat (go_quiet (first | ((with_reducible refine gate_dst (N := 3) rfl ?_); refine box_event ?hg (N := 3) ?hd (cs := #[.int .i64 a1_0, .int .i32 a1_1]) (t := 47) ?hr ?_; (case hd => rfl); (case hg => rfl); (case hr => first | (go_simp; done) | (go_simp; rfl)); intro gb158 hg w8 hbox hb; have n0_ := Aside0.mk (IsS47.below (by repeat (first | (with_reducible first | exact HI0.out | apply IsS47.alloc | apply IsS47.drewN | apply IsS47.drew | apply IsS47.set_0 | apply IsS47.set_1) | exact HI0.out)) hb); have n1_ := Aside0.mk (KeepBut.trans (by repeat (first | (with_reducible first | exact HK.out | apply KeepBut.set_ | apply keep_drewN | apply keep_drew | apply keep_alloc) | exact HK.out)) (KeepBut.of_below hb g none) (.inl rfl)); have n2_ := Aside0.mk (below_step (by repeat (first | (with_reducible first | exact HB.out | apply below_alloc | apply pw_below_drewN | apply below_drew1 | refine below_set ?_ (IsS47.ge HI0.out)) | exact HB.out)) hb); have n3_ := Aside0.mk (hbox); have n4_ := Aside0.mk ((by rw [hg]; exact (keep_size (w := w) (g := g) (row := none) (by repeat (first | (with_reducible first | exact HK.out | apply KeepBut.set_ | apply keep_drewN | apply keep_drew | apply keep_alloc) | exact HK.out))) : w.heap.size ≤ gb158)); have n5_ := Aside0.mk ((Nat.le_trans HW0.out (by rw [hg]; exact (keep_size (w := w) (g := g) (row := none) (by repeat (first | (with_reducible first | exact HK.out | apply KeepBut.set_ | apply keep_drewN | apply keep_drew | apply keep_alloc) | exact HK.out))) : w.heap.size ≤ gb158) : w0.heap.size ≤ gb158)); have n6_ := Aside0.mk ((by rw [hg]; exact Nat.ne_of_lt (IsS47.lt (show IsS47 w0 _ g s0_0 s0_1 from by repeat (first | (with_reducible first | exact HI0.out | apply IsS47.alloc | apply IsS47.drewN | apply IsS47.drew | apply IsS47.set_0 | apply IsS47.set_1) | exact HI0.out))) : g ≠ gb158)); have n7_ := Aside0.mk ((by rw [hg]; exact Nat.ne_of_gt (IsS47.lt (show IsS47 w0 _ g s0_0 s0_1 from by repeat (first | (with_reducible first | exact HI0.out | apply IsS47.alloc | apply IsS47.drewN | apply IsS47.drew | apply IsS47.set_0 | apply IsS47.set_1) | exact HI0.out))) : gb158 ≠ g)); clear HI0; clear HK; clear HB; have HI0 := n0_; have HK := n1_; have HB := n2_; have BK158 := n3_; have GW158 := n4_; have GE158 := n5_; have NB0_158 := n6_; have NB158_0 := n7_; clear n0_ n1_ n2_ n3_ n4_ n5_ n6_ n7_; clear hb hbox hg; have hnb9 := NB158_0.out; have hnc9 := NB0_158.out; have hcz10_0 : w8.cell? ⟨gb158, 0, none⟩ = some (.int .i64 a1_0) := (blk_cell BK158.out 0).trans rfl; have hcz10_1 : w8.cell? ⟨gb158, 1, none⟩ = some (.int .i32 a1_1) := (blk_cell BK158.out 1).trans rfl; have hfz10_0 := blk_frozen BK158.out 0; have hfz10_1 := blk_frozen BK158.out 1; obtain ⟨HGz11, hgz11⟩ := HI0.out; have hcz11_0 := cellS47_0 HGz11; have hcz11_1 := cellS47_1 HGz11; have hfz11_0 := blk_frozen HGz11 0; have hfz11_1 := blk_frozen HGz11 1; clear HGz11 hgz11)); try go_wp2_with (first | ((with_reducible refine gate_dst (N := 3) rfl ?_); refine box_event ?hg (N := 3) ?hd (cs := #[.int .i64 a1_0, .int .i32 a1_1]) (t := 47) ?hr ?_; (case hd => rfl); (case hg => rfl); (case hr => first | (go_simp; done) | (go_simp; rfl)); intro gb158 hg w8 hbox hb; have n0_ := Aside0.mk (IsS47.below (by repeat (first | (with_reducible first | exact HI0.out | apply IsS47.alloc | apply IsS47.drewN | apply IsS47.drew | apply IsS47.set_0 | apply IsS47.set_1) | exact HI0.out)) hb); have n1_ := Aside0.mk (KeepBut.trans (by repeat (first | (with_reducible first | exact HK.out | apply KeepBut.set_ | apply keep_drewN | apply keep_drew | apply keep_alloc) | exact HK.out)) (KeepBut.of_below hb g none) (.inl rfl)); have n2_ := Aside0.mk (below_step (by repeat (first | (with_reducible first | exact HB.out | apply below_alloc | apply pw_below_drewN | apply below_drew1 | refine below_set ?_ (IsS47.ge HI0.out)) | exact HB.out)) hb); have n3_ := Aside0.mk (hbox); have n4_ := Aside0.mk ((by rw [hg]; exact (keep_size (w := w) (g := g) (row := none) (by repeat (first | (with_reducible first | exact HK.out | apply KeepBut.set_ | apply keep_drewN | apply keep_drew | apply keep_alloc) | exact HK.out))) : w.heap.size ≤ gb158)); have n5_ := Aside0.mk ((Nat.le_trans HW0.out (by rw [hg]; exact (keep_size (w := w) (g := g) (row := none) (by repeat (first | (with_reducible first | exact HK.out | apply KeepBut.set_ | apply keep_drewN | apply keep_drew | apply keep_alloc) | exact HK.out))) : w.heap.size ≤ gb158) : w0.heap.size ≤ gb158)); have n6_ := Aside0.mk ((by rw [hg]; exact Nat.ne_of_lt (IsS47.lt (show IsS47 w0 _ g s0_0 s0_1 from by repeat (first | (with_reducible first | exact HI0.out | apply IsS47.alloc | apply IsS47.drewN | apply IsS47.drew | apply IsS47.set_0 | apply IsS47.set_1) | exact HI0.out))) : g ≠ gb158)); have n7_ := Aside0.mk ((by rw [hg]; exact Nat.ne_of_gt (IsS47.lt (show IsS47 w0 _ g s0_0 s0_1 from by repeat (first | (with_reducible first | exact HI0.out | apply IsS47.alloc | apply IsS47.drewN | apply IsS47.drew | apply IsS47.set_0 | apply IsS47.set_1) | exact HI0.out))) : gb158 ≠ g)); clear HI0; clear HK; clear HB; have HI0 := n0_; have HK := n1_; have HB := n2_; have BK158 := n3_; have GW158 := n4_; have GE158 := n5_; have NB0_158 := n6_; have NB158_0 := n7_; clear n0_ n1_ n2_ n3_ n4_ n5_ n6_ n7_; clear hb hbox hg; have hnb9 := NB158_0.out; have hnc9 := NB0_158.out; have hcz10_0 : w8.cell? ⟨gb158, 0, none⟩ = some (.int .i64 a1_0) := (blk_cell BK158.out 0).trans rfl; have hcz10_1 : w8.cell? ⟨gb158, 1, none⟩ = some (.int .i32 a1_1) := (blk_cell BK158.out 1).trans rfl; have hfz10_0 := blk_frozen BK158.out 0; have hfz10_1 := blk_frozen BK158.out 1; obtain ⟨HGz11, hgz11⟩ := HI0.out; have hcz11_0 := cellS47_0 HGz11; have hcz11_1 := cellS47_1 HGz11; have hfz11_0 := blk_frozen HGz11 0; have hfz11_1 := blk_frozen HGz11 1; clear HGz11 hgz11)))
      go_ret
      exact ⟨by first | rfl | (simp [errW_none, errW_some] <;> rfl) | (simp [*, errW_none, errW_some] <;> rfl), by repeat (first | (with_reducible first | exact HI0.out | apply IsS47.alloc | apply IsS47.drewN | apply IsS47.drew | apply IsS47.set_0 | apply IsS47.set_1 | refine IsS47.far ?_ NB0_158.out _) | exact HI0.out), by repeat (first | (with_reducible first | exact HB.out | apply below_alloc | apply pw_below_drewN | apply below_drew1 | refine below_set ?_ (IsS47.ge HI0.out) | refine below_set ?_ GE158.out) | exact HB.out), by repeat (first | (with_reducible first | exact HK.out | apply KeepBut.set_ | apply keep_drewN | apply keep_drew | apply keep_alloc | refine keep_far ?_ GW158.out _) | exact HK.out)⟩
    · rw [if_neg c7] at H
      have c7b0 : (s0_0 == 0) = false := beq_eq_false_iff_ne.mpr c7
      have c7b1 : (s0_0 != 0) = true := bne_iff_ne.mpr c7
      by_cases c12 : s0_1 = a1_1
      · rw [if_pos c12] at H
        have c12b0 : (s0_1 == a1_1) = true := beq_iff_eq.mpr c12
        have c12b1 : (s0_1 != a1_1) = false := bne_eq_false_iff_eq.mpr c12
        clear c12
        replace H := Option.bind_eq_some_iff.mp H
        obtain ⟨⟨t159, t160⟩, A130, H⟩ := H
        replace H : (if t160 = true then (some (true, t159, s0_1)) else (some (false, s0_0, s0_1))) = some (r1, r2, r3) := H
        have A13 := Aside0.mk A130
        clear A130
        by_cases c14 : t160 = true
        · subst c14
          have H1 : (some (true, t159, s0_1)) = some (r1, r2, r3) := by rw [if_pos rfl] at H; exact H
          clear H
          have H := H1
          clear H1
          simp only [Option.some.injEq, Prod.mk.injEq] at H
          obtain ⟨rfl, rfl, rfl⟩ := H
          go_enter Try.func27, Try.ntmps27
          go_wp2_with (first | ((with_reducible refine gate_dst (N := 3) rfl ?_); refine box_event ?hg (N := 3) ?hd (cs := #[.int .i64 a1_0, .int .i32 a1_1]) (t := 47) ?hr ?_; (case hd => rfl); (case hg => rfl); (case hr => first | (go_simp; done) | (go_simp; rfl)); intro gb158 hg w15 hbox hb; have n0_ := Aside0.mk (IsS47.below (by repeat (first | (with_reducible first | exact HI0.out | apply IsS47.alloc | apply IsS47.drewN | apply IsS47.drew | apply IsS47.set_0 | apply IsS47.set_1) | exact HI0.out)) hb); have n1_ := Aside0.mk (KeepBut.trans (by repeat (first | (with_reducible first | exact HK.out | apply KeepBut.set_ | apply keep_drewN | apply keep_drew | apply keep_alloc) | exact HK.out)) (KeepBut.of_below hb g none) (.inl rfl)); have n2_ := Aside0.mk (below_step (by repeat (first | (with_reducible first | exact HB.out | apply below_alloc | apply pw_below_drewN | apply below_drew1 | refine below_set ?_ (IsS47.ge HI0.out)) | exact HB.out)) hb); have n3_ := Aside0.mk (hbox); have n4_ := Aside0.mk ((by rw [hg]; exact (keep_size (w := w) (g := g) (row := none) (by repeat (first | (with_reducible first | exact HK.out | apply KeepBut.set_ | apply keep_drewN | apply keep_drew | apply keep_alloc) | exact HK.out))) : w.heap.size ≤ gb158)); have n5_ := Aside0.mk ((Nat.le_trans HW0.out (by rw [hg]; exact (keep_size (w := w) (g := g) (row := none) (by repeat (first | (with_reducible first | exact HK.out | apply KeepBut.set_ | apply keep_drewN | apply keep_drew | apply keep_alloc) | exact HK.out))) : w.heap.size ≤ gb158) : w0.heap.size ≤ gb158)); have n6_ := Aside0.mk ((by rw [hg]; exact Nat.ne_of_lt (IsS47.lt (show IsS47 w0 _ g s0_0 s0_1 from by repeat (first | (with_reducible first | exact HI0.out | apply IsS47.alloc | apply IsS47.drewN | apply IsS47.drew | apply IsS47.set_0 | apply IsS47.set_1) | exact HI0.out))) : g ≠ gb158)); have n7_ := Aside0.mk ((by rw [hg]; exact Nat.ne_of_gt (IsS47.lt (show IsS47 w0 _ g s0_0 s0_1 from by repeat (first | (with_reducible first | exact HI0.out | apply IsS47.alloc | apply IsS47.drewN | apply IsS47.drew | apply IsS47.set_0 | apply IsS47.set_1) | exact HI0.out))) : gb158 ≠ g)); clear HI0; clear HK; clear HB; have HI0 := n0_; have HK := n1_; have HB := n2_; have BK158 := n3_; have GW158 := n4_; have GE158 := n5_; have NB0_158 := n6_; have NB158_0 := n7_; clear n0_ n1_ n2_ n3_ n4_ n5_ n6_ n7_; clear hb hbox hg; have hnb16 := NB158_0.out; have hnc16 := NB0_158.out; have hcz17_0 : w15.cell? ⟨gb158, 0, none⟩ = some (.int .i64 a1_0) := (blk_cell BK158.out 0).trans rfl; have hcz17_1 : w15.cell? ⟨gb158, 1, none⟩ = some (.int .i32 a1_1) := (blk_cell BK158.out 1).trans rfl; have hfz17_0 := blk_frozen BK158.out 0; have hfz17_1 := blk_frozen BK158.out 1; obtain ⟨HGz18, hgz18⟩ := HI0.out; have hcz18_0 := cellS47_0 HGz18; have hcz18_1 := cellS47_1 HGz18; have hfz18_0 := blk_frozen HGz18 0; have hfz18_1 := blk_frozen HGz18 1; clear HGz18 hgz18) | (go_at_call 32; (with_reducible refine (resource_int64Add.calls k s0_0 a1_0 t159 true _ A13.out).mono ?_); rintro e w' ⟨rfl, ⟨nd, rfl⟩⟩; (try first | exact ⟨rfl, _, World.drewN_drewN _ _ _⟩ | exact ⟨rfl, _, Eq.trans (World.drewN_drewN _ _ _) (congrArg (World.drewN _) (Nat.add_assoc _ _ _))⟩)))
          repeat (go_quiet (first | ((with_reducible refine gate_dst (N := 3) rfl ?_); refine box_event ?hg (N := 3) ?hd (cs := #[.int .i64 a1_0, .int .i32 a1_1]) (t := 47) ?hr ?_; (case hd => rfl); (case hg => rfl); (case hr => first | (go_simp; done) | (go_simp; rfl)); intro gb158 hg w15 hbox hb; have n0_ := Aside0.mk (IsS47.below (by repeat (first | (with_reducible first | exact HI0.out | apply IsS47.alloc | apply IsS47.drewN | apply IsS47.drew | apply IsS47.set_0 | apply IsS47.set_1) | exact HI0.out)) hb); have n1_ := Aside0.mk (KeepBut.trans (by repeat (first | (with_reducible first | exact HK.out | apply KeepBut.set_ | apply keep_drewN | apply keep_drew | apply keep_alloc) | exact HK.out)) (KeepBut.of_below hb g none) (.inl rfl)); have n2_ := Aside0.mk (below_step (by repeat (first | (with_reducible first | exact HB.out | apply below_alloc | apply pw_below_drewN | apply below_drew1 | refine below_set ?_ (IsS47.ge HI0.out)) | exact HB.out)) hb); have n3_ := Aside0.mk (hbox); have n4_ := Aside0.mk ((by rw [hg]; exact (keep_size (w := w) (g := g) (row := none) (by repeat (first | (with_reducible first | exact HK.out | apply KeepBut.set_ | apply keep_drewN | apply keep_drew | apply keep_alloc) | exact HK.out))) : w.heap.size ≤ gb158)); have n5_ := Aside0.mk ((Nat.le_trans HW0.out (by rw [hg]; exact (keep_size (w := w) (g := g) (row := none) (by repeat (first | (with_reducible first | exact HK.out | apply KeepBut.set_ | apply keep_drewN | apply keep_drew | apply keep_alloc) | exact HK.out))) : w.heap.size ≤ gb158) : w0.heap.size ≤ gb158)); have n6_ := Aside0.mk ((by rw [hg]; exact Nat.ne_of_lt (IsS47.lt (show IsS47 w0 _ g s0_0 s0_1 from by repeat (first | (with_reducible first | exact HI0.out | apply IsS47.alloc | apply IsS47.drewN | apply IsS47.drew | apply IsS47.set_0 | apply IsS47.set_1) | exact HI0.out))) : g ≠ gb158)); have n7_ := Aside0.mk ((by rw [hg]; exact Nat.ne_of_gt (IsS47.lt (show IsS47 w0 _ g s0_0 s0_1 from by repeat (first | (with_reducible first | exact HI0.out | apply IsS47.alloc | apply IsS47.drewN | apply IsS47.drew | apply IsS47.set_0 | apply IsS47.set_1) | exact HI0.out))) : gb158 ≠ g)); clear HI0; clear HK; clear HB; have HI0 := n0_; have HK := n1_; have HB := n2_; have BK158 := n3_; have GW158 := n4_; have GE158 := n5_; have NB0_158 := n6_; have NB158_0 := n7_; clear n0_ n1_ n2_ n3_ n4_ n5_ n6_ n7_; clear hb hbox hg; have hnb16 := NB158_0.out; have hnc16 := NB0_158.out; have hcz17_0 : w15.cell? ⟨gb158, 0, none⟩ = some (.int .i64 a1_0) := (blk_cell BK158.out 0).trans rfl; have hcz17_1 : w15.cell? ⟨gb158, 1, none⟩ = some (.int .i32 a1_1) := (blk_cell BK158.out 1).trans rfl; have hfz17_0 := blk_frozen BK158.out 0; have hfz17_1 := blk_frozen BK158.out 1; obtain ⟨HGz18, hgz18⟩ := HI0.out; have hcz18_0 := cellS47_0 HGz18; have hcz18_1 := cellS47_1 HGz18; have hfz18_0 := blk_frozen HGz18 0; have hfz18_1 := blk_frozen HGz18 1; clear HGz18 hgz18) | (go_at_call 32; (with_reducible refine (resource_int64Add.calls k s0_0 a1_0 t159 true _ A13.out).mono ?_); rintro e w' ⟨rfl, ⟨nd, rfl⟩⟩; (try first | exact ⟨rfl, _, World.drewN_drewN _ _ _⟩ | exact ⟨rfl, _, Eq.trans (World.drewN_drewN _ _ _) (congrArg (World.drewN _) (Nat.add_assoc _ _ _))⟩))); try go_wp2_with (first | ((with_reducible refine gate_dst (N := 3) rfl ?_); refine box_event ?hg (N := 3) ?hd (cs := #[.int .i64 a1_0, .int .i32 a1_1]) (t := 47) ?hr ?_; (case hd => rfl); (case hg => rfl); (case hr => first | (go_simp; done) | (go_simp; rfl)); intro gb158 hg w15 hbox hb; have n0_ := Aside0.mk (IsS47.below (by repeat (first | (with_reducible first | exact HI0.out | apply IsS47.alloc | apply IsS47.drewN | apply IsS47.drew | apply IsS47.set_0 | apply IsS47.set_1) | exact HI0.out)) hb); have n1_ := Aside0.mk (KeepBut.trans (by repeat (first | (with_reducible first | exact HK.out | apply KeepBut.set_ | apply keep_drewN | apply keep_drew | apply keep_alloc) | exact HK.out)) (KeepBut.of_below hb g none) (.inl rfl)); have n2_ := Aside0.mk (below_step (by repeat (first | (with_reducible first | exact HB.out | apply below_alloc | apply pw_below_drewN | apply below_drew1 | refine below_set ?_ (IsS47.ge HI0.out)) | exact HB.out)) hb); have n3_ := Aside0.mk (hbox); have n4_ := Aside0.mk ((by rw [hg]; exact (keep_size (w := w) (g := g) (row := none) (by repeat (first | (with_reducible first | exact HK.out | apply KeepBut.set_ | apply keep_drewN | apply keep_drew | apply keep_alloc) | exact HK.out))) : w.heap.size ≤ gb158)); have n5_ := Aside0.mk ((Nat.le_trans HW0.out (by rw [hg]; exact (keep_size (w := w) (g := g) (row := none) (by repeat (first | (with_reducible first | exact HK.out | apply KeepBut.set_ | apply keep_drewN | apply keep_drew | apply keep_alloc) | exact HK.out))) : w.heap.size ≤ gb158) : w0.heap.size ≤ gb158)); have n6_ := Aside0.mk ((by rw [hg]; exact Nat.ne_of_lt (IsS47.lt (show IsS47 w0 _ g s0_0 s0_1 from by repeat (first | (with_reducible first | exact HI0.out | apply IsS47.alloc | apply IsS47.drewN | apply IsS47.drew | apply IsS47.set_0 | apply IsS47.set_1) | exact HI0.out))) : g ≠ gb158)); have n7_ := Aside0.mk ((by rw [hg]; exact Nat.ne_of_gt (IsS47.lt (show IsS47 w0 _ g s0_0 s0_1 from by repeat (first | (with_reducible first | exact HI0.out | apply IsS47.alloc | apply IsS47.drewN | apply IsS47.drew | apply IsS47.set_0 | apply IsS47.set_1) | exact HI0.out))) : gb158 ≠ g)); clear HI0; clear HK; clear HB; have HI0 := n0_; have HK := n1_; have HB := n2_; have BK158 := n3_; have GW158 := n4_; have GE158 := n5_; have NB0_158 := n6_; have NB158_0 := n7_; clear n0_ n1_ n2_ n3_ n4_ n5_ n6_ n7_; clear hb hbox hg; have hnb16 := NB158_0.out; have hnc16 := NB0_158.out; have hcz17_0 : w15.cell? ⟨gb158, 0, none⟩ = some (.int .i64 a1_0) := (blk_cell BK158.out 0).trans rfl; have hcz17_1 : w15.cell? ⟨gb158, 1, none⟩ = some (.int .i32 a1_1) := (blk_cell BK158.out 1).trans rfl; have hfz17_0 := blk_frozen BK158.out 0; have hfz17_1 := blk_frozen BK158.out 1; obtain ⟨HGz18, hgz18⟩ := HI0.out; have hcz18_0 := cellS47_0 HGz18; have hcz18_1 := cellS47_1 HGz18; have hfz18_0 := blk_frozen HGz18 0; have hfz18_1 := blk_frozen HGz18 1; clear HGz18 hgz18) | (go_at_call 32; (with_reducible refine (resource_int64Add.calls k s0_0 a1_0 t159 true _ A13.out).mono ?_); rintro e w' ⟨rfl, ⟨nd, rfl⟩⟩; (try first | exact ⟨rfl, _, World.drewN_drewN _ _ _⟩ | exact ⟨rfl, _, Eq.trans (World.drewN_drewN _ _ _) (congrArg (World.drewN _) (Nat.add_assoc _ _ _))⟩))))
          go_ret
          exact ⟨by first | rfl | (simp [errW_none, errW_some] <;> rfl) | (simp [*, errW_none, errW_some] <;> rfl), by repeat (first | (with_reducible first | exact HI0.out | apply IsS47.alloc | apply IsS47.drewN | apply IsS47.drew | apply IsS47.set_0 | apply IsS47.set_1 | refine IsS47.far ?_ NB0_158.out _) | exact HI0.out), by repeat (first | (with_reducible first | exact HB.out | apply below_alloc | apply pw_below_drewN | apply below_drew1 | refine below_set ?_ (IsS47.ge HI0.out) | refine below_set ?_ GE158.out) | exact HB.out), by repeat (first | (with_reducible first | exact HK.out | apply KeepBut.set_ | apply keep_drewN | apply keep_drew | apply keep_alloc | refine keep_far ?_ GW158.out _) | exact HK.out)⟩
        · replace c14 := Bool.eq_false_iff.mpr c14
          subst c14
          have H1 : (some (false, s0_0, s0_1)) = some (r1, r2, r3) := by rw [if_neg (show ¬ (false = true) by decide)] at H; exact H
          clear H
          have H := H1
          clear H1
          simp only [Option.some.injEq, Prod.mk.injEq] at H
          obtain ⟨rfl, rfl, rfl⟩ := H
          go_enter Try.func27, Try.ntmps27
          go_wp2_with (first | ((with_reducible refine gate_dst (N := 3) rfl ?_); refine box_event ?hg (N := 3) ?hd (cs := #[.int .i64 a1_0, .int .i32 a1_1]) (t := 47) ?hr ?_; (case hd => rfl); (case hg => rfl); (case hr => first | (go_simp; done) | (go_simp; rfl)); intro gb158 hg w19 hbox hb; have n0_ := Aside0.mk (IsS47.below (by repeat (first | (with_reducible first | exact HI0.out | apply IsS47.alloc | apply IsS47.drewN | apply IsS47.drew | apply IsS47.set_0 | apply IsS47.set_1) | exact HI0.out)) hb); have n1_ := Aside0.mk (KeepBut.trans (by repeat (first | (with_reducible first | exact HK.out | apply KeepBut.set_ | apply keep_drewN | apply keep_drew | apply keep_alloc) | exact HK.out)) (KeepBut.of_below hb g none) (.inl rfl)); have n2_ := Aside0.mk (below_step (by repeat (first | (with_reducible first | exact HB.out | apply below_alloc | apply pw_below_drewN | apply below_drew1 | refine below_set ?_ (IsS47.ge HI0.out)) | exact HB.out)) hb); have n3_ := Aside0.mk (hbox); have n4_ := Aside0.mk ((by rw [hg]; exact (keep_size (w := w) (g := g) (row := none) (by repeat (first | (with_reducible first | exact HK.out | apply KeepBut.set_ | apply keep_drewN | apply keep_drew | apply keep_alloc) | exact HK.out))) : w.heap.size ≤ gb158)); have n5_ := Aside0.mk ((Nat.le_trans HW0.out (by rw [hg]; exact (keep_size (w := w) (g := g) (row := none) (by repeat (first | (with_reducible first | exact HK.out | apply KeepBut.set_ | apply keep_drewN | apply keep_drew | apply keep_alloc) | exact HK.out))) : w.heap.size ≤ gb158) : w0.heap.size ≤ gb158)); have n6_ := Aside0.mk ((by rw [hg]; exact Nat.ne_of_lt (IsS47.lt (show IsS47 w0 _ g s0_0 s0_1 from by repeat (first | (with_reducible first | exact HI0.out | apply IsS47.alloc | apply IsS47.drewN | apply IsS47.drew | apply IsS47.set_0 | apply IsS47.set_1) | exact HI0.out))) : g ≠ gb158)); have n7_ := Aside0.mk ((by rw [hg]; exact Nat.ne_of_gt (IsS47.lt (show IsS47 w0 _ g s0_0 s0_1 from by repeat (first | (with_reducible first | exact HI0.out | apply IsS47.alloc | apply IsS47.drewN | apply IsS47.drew | apply IsS47.set_0 | apply IsS47.set_1) | exact HI0.out))) : gb158 ≠ g)); clear HI0; clear HK; clear HB; have HI0 := n0_; have HK := n1_; have HB := n2_; have BK158 := n3_; have GW158 := n4_; have GE158 := n5_; have NB0_158 := n6_; have NB158_0 := n7_; clear n0_ n1_ n2_ n3_ n4_ n5_ n6_ n7_; clear hb hbox hg; have hnb20 := NB158_0.out; have hnc20 := NB0_158.out; have hcz21_0 : w19.cell? ⟨gb158, 0, none⟩ = some (.int .i64 a1_0) := (blk_cell BK158.out 0).trans rfl; have hcz21_1 : w19.cell? ⟨gb158, 1, none⟩ = some (.int .i32 a1_1) := (blk_cell BK158.out 1).trans rfl; have hfz21_0 := blk_frozen BK158.out 0; have hfz21_1 := blk_frozen BK158.out 1; obtain ⟨HGz22, hgz22⟩ := HI0.out; have hcz22_0 := cellS47_0 HGz22; have hcz22_1 := cellS47_1 HGz22; have hfz22_0 := blk_frozen HGz22 0; have hfz22_1 := blk_frozen HGz22 1; clear HGz22 hgz22) | (go_at_call 32; (with_reducible refine (resource_int64Add.calls k s0_0 a1_0 t159 false _ A13.out).mono ?_); rintro e w' ⟨rfl, ⟨nd, rfl⟩⟩; (try first | exact ⟨rfl, _, World.drewN_drewN _ _ _⟩ | exact ⟨rfl, _, Eq.trans (World.drewN_drewN _ _ _) (congrArg (World.drewN _) (Nat.add_assoc _ _ _))⟩)))
          repeat (go_quiet (first | ((with_reducible refine gate_dst (N := 3) rfl ?_); refine box_event ?hg (N := 3) ?hd (cs := #[.int .i64 a1_0, .int .i32 a1_1]) (t := 47) ?hr ?_; (case hd => rfl); (case hg => rfl); (case hr => first | (go_simp; done) | (go_simp; rfl)); intro gb158 hg w19 hbox hb; have n0_ := Aside0.mk (IsS47.below (by repeat (first | (with_reducible first | exact HI0.out | apply IsS47.alloc | apply IsS47.drewN | apply IsS47.drew | apply IsS47.set_0 | apply IsS47.set_1) | exact HI0.out)) hb); have n1_ := Aside0.mk (KeepBut.trans (by repeat (first | (with_reducible first | exact HK.out | apply KeepBut.set_ | apply keep_drewN | apply keep_drew | apply keep_alloc) | exact HK.out)) (KeepBut.of_below hb g none) (.inl rfl)); have n2_ := Aside0.mk (below_step (by repeat (first | (with_reducible first | exact HB.out | apply below_alloc | apply pw_below_drewN | apply below_drew1 | refine below_set ?_ (IsS47.ge HI0.out)) | exact HB.out)) hb); have n3_ := Aside0.mk (hbox); have n4_ := Aside0.mk ((by rw [hg]; exact (keep_size (w := w) (g := g) (row := none) (by repeat (first | (with_reducible first | exact HK.out | apply KeepBut.set_ | apply keep_drewN | apply keep_drew | apply keep_alloc) | exact HK.out))) : w.heap.size ≤ gb158)); have n5_ := Aside0.mk ((Nat.le_trans HW0.out (by rw [hg]; exact (keep_size (w := w) (g := g) (row := none) (by repeat (first | (with_reducible first | exact HK.out | apply KeepBut.set_ | apply keep_drewN | apply keep_drew | apply keep_alloc) | exact HK.out))) : w.heap.size ≤ gb158) : w0.heap.size ≤ gb158)); have n6_ := Aside0.mk ((by rw [hg]; exact Nat.ne_of_lt (IsS47.lt (show IsS47 w0 _ g s0_0 s0_1 from by repeat (first | (with_reducible first | exact HI0.out | apply IsS47.alloc | apply IsS47.drewN | apply IsS47.drew | apply IsS47.set_0 | apply IsS47.set_1) | exact HI0.out))) : g ≠ gb158)); have n7_ := Aside0.mk ((by rw [hg]; exact Nat.ne_of_gt (IsS47.lt (show IsS47 w0 _ g s0_0 s0_1 from by repeat (first | (with_reducible first | exact HI0.out | apply IsS47.alloc | apply IsS47.drewN | apply IsS47.drew | apply IsS47.set_0 | apply IsS47.set_1) | exact HI0.out))) : gb158 ≠ g)); clear HI0; clear HK; clear HB; have HI0 := n0_; have HK := n1_; have HB := n2_; have BK158 := n3_; have GW158 := n4_; have GE158 := n5_; have NB0_158 := n6_; have NB158_0 := n7_; clear n0_ n1_ n2_ n3_ n4_ n5_ n6_ n7_; clear hb hbox hg; have hnb20 := NB158_0.out; have hnc20 := NB0_158.out; have hcz21_0 : w19.cell? ⟨gb158, 0, none⟩ = some (.int .i64 a1_0) := (blk_cell BK158.out 0).trans rfl; have hcz21_1 : w19.cell? ⟨gb158, 1, none⟩ = some (.int .i32 a1_1) := (blk_cell BK158.out 1).trans rfl; have hfz21_0 := blk_frozen BK158.out 0; have hfz21_1 := blk_frozen BK158.out 1; obtain ⟨HGz22, hgz22⟩ := HI0.out; have hcz22_0 := cellS47_0 HGz22; have hcz22_1 := cellS47_1 HGz22; have hfz22_0 := blk_frozen HGz22 0; have hfz22_1 := blk_frozen HGz22 1; clear HGz22 hgz22) | (go_at_call 32; (with_reducible refine (resource_int64Add.calls k s0_0 a1_0 t159 false _ A13.out).mono ?_); rintro e w' ⟨rfl, ⟨nd, rfl⟩⟩; (try first | exact ⟨rfl, _, World.drewN_drewN _ _ _⟩ | exact ⟨rfl, _, Eq.trans (World.drewN_drewN _ _ _) (congrArg (World.drewN _) (Nat.add_assoc _ _ _))⟩))); try go_wp2_with (first | ((with_reducible refine gate_dst (N := 3) rfl ?_); refine box_event ?hg (N := 3) ?hd (cs := #[.int .i64 a1_0, .int .i32 a1_1]) (t := 47) ?hr ?_; (case hd => rfl); (case hg => rfl); (case hr => first | (go_simp; done) | (go_simp; rfl)); intro gb158 hg w19 hbox hb; have n0_ := Aside0.mk (IsS47.below (by repeat (first | (with_reducible first | exact HI0.out | apply IsS47.alloc | apply IsS47.drewN | apply IsS47.drew | apply IsS47.set_0 | apply IsS47.set_1) | exact HI0.out)) hb); have n1_ := Aside0.mk (KeepBut.trans (by repeat (first | (with_reducible first | exact HK.out | apply KeepBut.set_ | apply keep_drewN | apply keep_drew | apply keep_alloc) | exact HK.out)) (KeepBut.of_below hb g none) (.inl rfl)); have n2_ := Aside0.mk (below_step (by repeat (first | (with_reducible first | exact HB.out | apply below_alloc | apply pw_below_drewN | apply below_drew1 | refine below_set ?_ (IsS47.ge HI0.out)) | exact HB.out)) hb); have n3_ := Aside0.mk (hbox); have n4_ := Aside0.mk ((by rw [hg]; exact (keep_size (w := w) (g := g) (row := none) (by repeat (first | (with_reducible first | exact HK.out | apply KeepBut.set_ | apply keep_drewN | apply keep_drew | apply keep_alloc) | exact HK.out))) : w.heap.size ≤ gb158)); have n5_ := Aside0.mk ((Nat.le_trans HW0.out (by rw [hg]; exact (keep_size (w := w) (g := g) (row := none) (by repeat (first | (with_reducible first | exact HK.out | apply KeepBut.set_ | apply keep_drewN | apply keep_drew | apply keep_alloc) | exact HK.out))) : w.heap.size ≤ gb158) : w0.heap.size ≤ gb158)); have n6_ := Aside0.mk ((by rw [hg]; exact Nat.ne_of_lt (IsS47.lt (show IsS47 w0 _ g s0_0 s0_1 from by repeat (first | (with_reducible first | exact HI0.out | apply IsS47.alloc | apply IsS47.drewN | apply IsS47.drew | apply IsS47.set_0 | apply IsS47.set_1) | exact HI0.out))) : g ≠ gb158)); have n7_ := Aside0.mk ((by rw [hg]; exact Nat.ne_of_gt (IsS47.lt (show IsS47 w0 _ g s0_0 s0_1 from by repeat (first | (with_reducible first | exact HI0.out | apply IsS47.alloc | apply IsS47.drewN | apply IsS47.drew | apply IsS47.set_0 | apply IsS47.set_1) | exact HI0.out))) : gb158 ≠ g)); clear HI0; clear HK; clear HB; have HI0 := n0_; have HK := n1_; have HB := n2_; have BK158 := n3_; have GW158 := n4_; have GE158 := n5_; have NB0_158 := n6_; have NB158_0 := n7_; clear n0_ n1_ n2_ n3_ n4_ n5_ n6_ n7_; clear hb hbox hg; have hnb20 := NB158_0.out; have hnc20 := NB0_158.out; have hcz21_0 : w19.cell? ⟨gb158, 0, none⟩ = some (.int .i64 a1_0) := (blk_cell BK158.out 0).trans rfl; have hcz21_1 : w19.cell? ⟨gb158, 1, none⟩ = some (.int .i32 a1_1) := (blk_cell BK158.out 1).trans rfl; have hfz21_0 := blk_frozen BK158.out 0; have hfz21_1 := blk_frozen BK158.out 1; obtain ⟨HGz22, hgz22⟩ := HI0.out; have hcz22_0 := cellS47_0 HGz22; have hcz22_1 := cellS47_1 HGz22; have hfz22_0 := blk_frozen HGz22 0; have hfz22_1 := blk_frozen HGz22 1; clear HGz22 hgz22) | (go_at_call 32; (with_reducible refine (resource_int64Add.calls k s0_0 a1_0 t159 false _ A13.out).mono ?_); rintro e w' ⟨rfl, ⟨nd, rfl⟩⟩; (try first | exact ⟨rfl, _, World.drewN_drewN _ _ _⟩ | exact ⟨rfl, _, Eq.trans (World.drewN_drewN _ _ _) (congrArg (World.drewN _) (Nat.add_assoc _ _ _))⟩))))
          go_ret
          exact ⟨by first | rfl | (simp [errW_none, errW_some] <;> rfl) | (simp [*, errW_none, errW_some] <;> rfl), by repeat (first | (with_reducible first | exact HI0.out | apply IsS47.alloc | apply IsS47.drewN | apply IsS47.drew | apply IsS47.set_0 | apply IsS47.set_1 | refine IsS47.far ?_ NB0_158.out _) | exact HI0.out), by repeat (first | (with_reducible first | exact HB.out | apply below_alloc | apply pw_below_drewN | apply below_drew1 | refine below_set ?_ (IsS47.ge HI0.out) | refine below_set ?_ GE158.out) | exact HB.out), by repeat (first | (with_reducible first | exact HK.out | apply KeepBut.set_ | apply keep_drewN | apply keep_drew | apply keep_alloc | refine keep_far ?_ GW158.out _) | exact HK.out)⟩
      · rw [if_neg c12] at H
        have c12b0 : (s0_1 == a1_1) = false := beq_eq_false_iff_ne.mpr c12
        have c12b1 : (s0_1 != a1_1) = true := bne_iff_ne.mpr c12
        by_cases c23 : s0_1 > a1_1
        · rw [if_pos c23] at H
          have c23b0 : decide (a1_1 < s0_1) = true := decide_eq_true c23
          clear c23
          replace H := Option.bind_eq_some_iff.mp H
          obtain ⟨⟨t161, t162⟩, A240, H⟩ := H
          replace H : (if t162 = true then ((resource_int64Add.f k t161 a1_0).bind fun bt163 => (if bt163.2 = true then (some (true, bt163.1, a1_1)) else (some (false, s0_0, s0_1)))) else (some (false, s0_0, s0_1))) = some (r1, r2, r3) := H
          have A24 := Aside0.mk A240
          clear A240
          by_cases c25 : t162 = true
          · subst c25
            have H1 : ((resource_int64Add.f k t161 a1_0).bind fun bt163 => (if bt163.2 = true then (some (true, bt163.1, a1_1)) else (some (false, s0_0, s0_1)))) = some (r1, r2, r3) := by rw [if_pos rfl] at H; exact H
            clear H
            have H := H1
            clear H1
            replace H := Option.bind_eq_some_iff.mp H
            obtain ⟨⟨t163, t164⟩, A260, H⟩ := H
            replace H : (if t164 = true then (some (true, t163, a1_1)) else (some (false, s0_0, s0_1))) = some (r1, r2, r3) := H
            have A26 := Aside0.mk A260
            clear A260
            by_cases c27 : t164 = true
            · subst c27
              have H1 : (some (true, t163, a1_1)) = some (r1, r2, r3) := by rw [if_pos rfl] at H; exact H
              clear H
              have H := H1
              clear H1
              simp only [Option.some.injEq, Prod.mk.injEq] at H
              obtain ⟨rfl, rfl, rfl⟩ := H
              go_enter Try.func27, Try.ntmps27
              go_wp2_with (first | ((with_reducible refine gate_dst (N := 3) rfl ?_); refine box_event ?hg (N := 3) ?hd (cs := #[.int .i64 a1_0, .int .i32 a1_1]) (t := 47) ?hr ?_; (case hd => rfl); (case hg => rfl); (case hr => first | (go_simp; done) | (go_simp; rfl)); intro gb158 hg w28 hbox hb; have n0_ := Aside0.mk (IsS47.below (by repeat (first | (with_reducible first | exact HI0.out | apply IsS47.alloc | apply IsS47.drewN | apply IsS47.drew | apply IsS47.set_0 | apply IsS47.set_1) | exact HI0.out)) hb); have n1_ := Aside0.mk (KeepBut.trans (by repeat (first | (with_reducible first | exact HK.out | apply KeepBut.set_ | apply keep_drewN | apply keep_drew | apply keep_alloc) | exact HK.out)) (KeepBut.of_below hb g none) (.inl rfl)); have n2_ := Aside0.mk (below_step (by repeat (first | (with_reducible first | exact HB.out | apply below_alloc | apply pw_below_drewN | apply below_drew1 | refine below_set ?_ (IsS47.ge HI0.out)) | exact HB.out)) hb); have n3_ := Aside0.mk (hbox); have n4_ := Aside0.mk ((by rw [hg]; exact (keep_size (w := w) (g := g) (row := none) (by repeat (first | (with_reducible first | exact HK.out | apply KeepBut.set_ | apply keep_drewN | apply keep_drew | apply keep_alloc) | exact HK.out))) : w.heap.size ≤ gb158)); have n5_ := Aside0.mk ((Nat.le_trans HW0.out (by rw [hg]; exact (keep_size (w := w) (g := g) (row := none) (by repeat (first | (with_reducible first | exact HK.out | apply KeepBut.set_ | apply keep_drewN | apply keep_drew | apply keep_alloc) | exact HK.out))) : w.heap.size ≤ gb158) : w0.heap.size ≤ gb158)); have n6_ := Aside0.mk ((by rw [hg]; exact Nat.ne_of_lt (IsS47.lt (show IsS47 w0 _ g s0_0 s0_1 from by repeat (first | (with_reducible first | exact HI0.out | apply IsS47.alloc | apply IsS47.drewN | apply IsS47.drew | apply IsS47.set_0 | apply IsS47.set_1) | exact HI0.out))) : g ≠ gb158)); have n7_ := Aside0.mk ((by rw [hg]; exact Nat.ne_of_gt (IsS47.lt (show IsS47 w0 _ g s0_0 s0_1 from by repeat (first | (with_reducible first | exact HI0.out | apply IsS47.alloc | apply IsS47.drewN | apply IsS47.drew | apply IsS47.set_0 | apply IsS47.set_1) | exact HI0.out))) : gb158 ≠ g)); clear HI0; clear HK; clear HB; have HI0 := n0_; have HK := n1_; have HB := n2_; have BK158 := n3_; have GW158 := n4_; have GE158 := n5_; have NB0_158 := n6_; have NB158_0 := n7_; clear n0_ n1_ n2_ n3_ n4_ n5_ n6_ n7_; clear hb hbox hg; have hnb29 := NB158_0.out; have hnc29 := NB0_158.out; have hcz30_0 : w28.cell? ⟨gb158, 0, none⟩ = some (.int .i64 a1_0) := (blk_cell BK158.out 0).trans rfl; have hcz30_1 : w28.cell? ⟨gb158, 1, none⟩ = some (.int .i32 a1_1) := (blk_cell BK158.out 1).trans rfl; have hfz30_0 := blk_frozen BK158.out 0; have hfz30_1 := blk_frozen BK158.out 1; obtain ⟨HGz31, hgz31⟩ := HI0.out; have hcz31_0 := cellS47_0 HGz31; have hcz31_1 := cellS47_1 HGz31; have hfz31_0 := blk_frozen HGz31 0; have hfz31_1 := blk_frozen HGz31 1; clear HGz31 hgz31) | (go_at_call 33; (with_reducible refine (resource_positiveScaleInt64.calls k s0_0 (wrap32 (s0_1 - a1_1)) t161 true _ A24.out).mono ?_); rintro e w' ⟨rfl, ⟨nd, rfl⟩⟩; (try first | exact ⟨rfl, _, World.drewN_drewN _ _ _⟩ | exact ⟨rfl, _, Eq.trans (World.drewN_drewN _ _ _) (congrArg (World.drewN _) (Nat.add_assoc _ _ _))⟩)) | (go_at_call 32; (with_reducible refine (resource_int64Add.calls k t161 a1_0 t163 true _ A26.out).mono ?_); rintro e w' ⟨rfl, ⟨nd, rfl⟩⟩; (try first | exact ⟨rfl, _, World.drewN_drewN _ _ _⟩ | exact ⟨rfl, _, Eq.trans (World.drewN_drewN _ _ _) (congrArg (World.drewN _) (Nat.add_assoc _ _ _))⟩)))
              repeat (go_quiet (first | ((with_reducible refine gate_dst (N := 3) rfl ?_); refine box_event ?hg (N := 3) ?hd (cs := #[.int .i64 a1_0, .int .i32 a1_1]) (t := 47) ?hr ?_; (case hd => rfl); (case hg => rfl); (case hr => first | (go_simp; done) | (go_simp; rfl)); intro gb158 hg w28 hbox hb; have n0_ := Aside0.mk (IsS47.below (by repeat (first | (with_reducible first | exact HI0.out | apply IsS47.alloc | apply IsS47.drewN | apply IsS47.drew | apply IsS47.set_0 | apply IsS47.set_1) | exact HI0.out)) hb); have n1_ := Aside0.mk (KeepBut.trans (by repeat (first | (with_reducible first | exact HK.out | apply KeepBut.set_ | apply keep_drewN | apply keep_drew | apply keep_alloc) | exact HK.out)) (KeepBut.of_below hb g none) (.inl rfl)); have n2_ := Aside0.mk (below_step (by repeat (first | (with_reducible first | exact HB.out | apply below_alloc | apply pw_below_drewN | apply below_drew1 | refine below_set ?_ (IsS47.ge HI0.out)) | exact HB.out)) hb); have n3_ := Aside0.mk (hbox); have n4_ := Aside0.mk ((by rw [hg]; exact (keep_size (w := w) (g := g) (row := none) (by repeat (first | (with_reducible first | exact HK.out | apply KeepBut.set_ | apply keep_drewN | apply keep_drew | apply keep_alloc) | exact HK.out))) : w.heap.size ≤ gb158)); have n5_ := Aside0.mk ((Nat.le_trans HW0.out (by rw [hg]; exact (keep_size (w := w) (g := g) (row := none) (by repeat (first | (with_reducible first | exact HK.out | apply KeepBut.set_ | apply keep_drewN | apply keep_drew | apply keep_alloc) | exact HK.out))) : w.heap.size ≤ gb158) : w0.heap.size ≤ gb158)); have n6_ := Aside0.mk ((by rw [hg]; exact Nat.ne_of_lt (IsS47.lt (show IsS47 w0 _ g s0_0 s0_1 from by repeat (first | (with_reducible first | exact HI0.out | apply IsS47.alloc | apply IsS47.drewN | apply IsS47.drew | apply IsS47.set_0 | apply IsS47.set_1) | exact HI0.out))) : g ≠ gb158)); have n7_ := Aside0.mk ((by rw [hg]; exact Nat.ne_of_gt (IsS47.lt (show IsS47 w0 _ g s0_0 s0_1 from by repeat (first | (with_reducible first | exact HI0.out | apply IsS47.alloc | apply IsS47.drewN | apply IsS47.drew | apply IsS47.set_0 | apply IsS47.set_1) | exact HI0.out))) : gb158 ≠ g)); clear HI0; clear HK; clear HB; have HI0 := n0_; have HK := n1_; have HB := n2_; have BK158 := n3_; have GW158 := n4_; have GE158 := n5_; have NB0_158 := n6_; have NB158_0 := n7_; clear n0_ n1_ n2_ n3_ n4_ n5_ n6_ n7_; clear hb hbox hg; have hnb29 := NB158_0.out; have hnc29 := NB0_158.out; have hcz30_0 : w28.cell? ⟨gb158, 0, none⟩ = some (.int .i64 a1_0) := (blk_cell BK158.out 0).trans rfl; have hcz30_1 : w28.cell? ⟨gb158, 1, none⟩ = some (.int .i32 a1_1) := (blk_cell BK158.out 1).trans rfl; have hfz30_0 := blk_frozen BK158.out 0; have hfz30_1 := blk_frozen BK158.out 1; obtain ⟨HGz31, hgz31⟩ := HI0.out; have hcz31_0 := cellS47_0 HGz31; have hcz31_1 := cellS47_1 HGz31; have hfz31_0 := blk_frozen HGz31 0; have hfz31_1 := blk_frozen HGz31 1; clear HGz31 hgz31) | (go_at_call 33; (with_reducible refine (resource_positiveScaleInt64.calls k s0_0 (wrap32 (s0_1 - a1_1)) t161 true _ A24.out).mono ?_); rintro e w' ⟨rfl, ⟨nd, rfl⟩⟩; (try first | exact ⟨rfl, _, World.drewN_drewN _ _ _⟩ | exact ⟨rfl, _, Eq.trans (World.drewN_drewN _ _ _) (congrArg (World.drewN _) (Nat.add_assoc _ _ _))⟩)) | (go_at_call 32; (with_reducible refine (resource_int64Add.calls k t161 a1_0 t163 true _ A26.out).mono ?_); rintro e w' ⟨rfl, ⟨nd, rfl⟩⟩; (try first | exact ⟨rfl, _, World.drewN_drewN _ _ _⟩ | exact ⟨rfl, _, Eq.trans (World.drewN_drewN _ _ _) (congrArg (World.drewN _) (Nat.add_assoc _ _ _))⟩))); try go_wp2_with (first | ((with_reducible refine gate_dst (N := 3) rfl ?_); refine box_event ?hg (N := 3) ?hd (cs := #[.int .i64 a1_0, .int .i32 a1_1]) (t := 47) ?hr ?_; (case hd => rfl); (case hg => rfl); (case hr => first | (go_simp; done) | (go_simp; rfl)); intro gb158 hg w28 hbox hb; have n0_ := Aside0.mk (IsS47.below (by repeat (first | (with_reducible first | exact HI0.out | apply IsS47.alloc | apply IsS47.drewN | apply IsS47.drew | apply IsS47.set_0 | apply IsS47.set_1) | exact HI0.out)) hb); have n1_ := Aside0.mk (KeepBut.trans (by repeat (first | (with_reducible first | exact HK.out | apply KeepBut.set_ | apply keep_drewN | apply keep_drew | apply keep_alloc) | exact HK.out)) (KeepBut.of_below hb g none) (.inl rfl)); have n2_ := Aside0.mk (below_step (by repeat (first | (with_reducible first | exact HB.out | apply below_alloc | apply pw_below_drewN | apply below_drew1 | refine below_set ?_ (IsS47.ge HI0.out)) | exact HB.out)) hb); have n3_ := Aside0.mk (hbox); have n4_ := Aside0.mk ((by rw [hg]; exact (keep_size (w := w) (g := g) (row := none) (by repeat (first | (with_reducible first | exact HK.out | apply KeepBut.set_ | apply keep_drewN | apply keep_drew | apply keep_alloc) | exact HK.out))) : w.heap.size ≤ gb158)); have n5_ := Aside0.mk ((Nat.le_trans HW0.out (by rw [hg]; exact (keep_size (w := w) (g := g) (row := none) (by repeat (first | (with_reducible first | exact HK.out | apply KeepBut.set_ | apply keep_drewN | apply keep_drew | apply keep_alloc) | exact HK.out))) : w.heap.size ≤ gb158) : w0.heap.size ≤ gb158)); have n6_ := Aside0.mk ((by rw [hg]; exact Nat.ne_of_lt (IsS47.lt (show IsS47 w0 _ g s0_0 s0_1 from by repeat (first | (with_reducible first | exact HI0.out | apply IsS47.alloc | apply IsS47.drewN | apply IsS47.drew | apply IsS47.set_0 | apply IsS47.set_1) | exact HI0.out))) : g ≠ gb158)); have n7_ := Aside0.mk ((by rw [hg]; exact Nat.ne_of_gt (IsS47.lt (show IsS47 w0 _ g s0_0 s0_1 from by repeat (first | (with_reducible first | exact HI0.out | apply IsS47.alloc | apply IsS47.drewN | apply IsS47.drew | apply IsS47.set_0 | apply IsS47.set_1) | exact HI0.out))) : gb158 ≠ g)); clear HI0; clear HK; clear HB; have HI0 := n0_; have HK := n1_; have HB := n2_; have BK158 := n3_; have GW158 := n4_; have GE158 := n5_; have NB0_158 := n6_; have NB158_0 := n7_; clear n0_ n1_ n2_ n3_ n4_ n5_ n6_ n7_; clear hb hbox hg; have hnb29 := NB158_0.out; have hnc29 := NB0_158.out; have hcz30_0 : w28.cell? ⟨gb158, 0, none⟩ = some (.int .i64 a1_0) := (blk_cell BK158.out 0).trans rfl; have hcz30_1 : w28.cell? ⟨gb158, 1, none⟩ = some (.int .i32 a1_1) := (blk_cell BK158.out 1).trans rfl; have hfz30_0 := blk_frozen BK158.out 0; have hfz30_1 := blk_frozen BK158.out 1; obtain ⟨HGz31, hgz31⟩ := HI0.out; have hcz31_0 := cellS47_0 HGz31; have hcz31_1 := cellS47_1 HGz31; have hfz31_0 := blk_frozen HGz31 0; have hfz31_1 := blk_frozen HGz31 1; clear HGz31 hgz31) | (go_at_call 33; (with_reducible refine (resource_positiveScaleInt64.calls k s0_0 (wrap32 (s0_1 - a1_1)) t161 true _ A24.out).mono ?_); rintro e w' ⟨rfl, ⟨nd, rfl⟩⟩; (try first | exact ⟨rfl, _, World.drewN_drewN _ _ _⟩ | exact ⟨rfl, _, Eq.trans (World.drewN_drewN _ _ _) (congrArg (World.drewN _) (Nat.add_assoc _ _ _))⟩)) | (go_at_call 32; (with_reducible refine (resource_int64Add.calls k t161 a1_0 t163 true _ A26.out).mono ?_); rintro e w' ⟨rfl, ⟨nd, rfl⟩⟩; (try first | exact ⟨rfl, _, World.drewN_drewN _ _ _⟩ | exact ⟨rfl, _, Eq.trans (World.drewN_drewN _ _ _) (congrArg (World.drewN _) (Nat.add_assoc _ _ _))⟩))))
              go_ret
              exact ⟨by first | rfl | (simp [errW_none, errW_some] <;> rfl) | (simp [*, errW_none, errW_some] <;> rfl), by repeat (first | (with_reducible first | exact HI0.out | apply IsS47.alloc | apply IsS47.drewN | apply IsS47.drew | apply IsS47.set_0 | apply IsS47.set_1 | refine IsS47.far ?_ NB0_158.out _) | exact HI0.out), by repeat (first | (with_reducible first | exact HB.out | apply below_alloc | apply pw_below_drewN | apply below_drew1 | refine below_set ?_ (IsS47.ge HI0.out) | refine below_set ?_ GE158.out) | exact HB.out), by repeat (first | (with_reducible first | exact HK.out | apply KeepBut.set_ | apply keep_drewN | apply keep_drew | apply keep_alloc | refine keep_far ?_ GW158.out _) | exact HK.out)⟩
            · replace c27 := Bool.eq_false_iff.mpr c27
              subst c27
              have H1 : (some (false, s0_0, s0_1)) = some (r1, r2, r3) := by rw [if_neg (show ¬ (false = true) by decide)] at H; exact H
              clear H
              have H := H1
              clear H1
              simp only [Option.some.injEq, Prod.mk.injEq] at H
              obtain ⟨rfl, rfl, rfl⟩ := H
              go_enter Try.func27, Try.ntmps27
              go_wp2_with (first | ((with_reducible refine gate_dst (N := 3) rfl ?_); refine box_event ?hg (N := 3) ?hd (cs := #[.int .i64 a1_0, .int .i32 a1_1]) (t := 47) ?hr ?_; (case hd => rfl); (case hg => rfl); (case hr => first | (go_simp; done) | (go_simp; rfl)); intro gb158 hg w32 hbox hb; have n0_ := Aside0.mk (IsS47.below (by repeat (first | (with_reducible first | exact HI0.out | apply IsS47.alloc | apply IsS47.drewN | apply IsS47.drew | apply IsS47.set_0 | apply IsS47.set_1) | exact HI0.out)) hb); have n1_ := Aside0.mk (KeepBut.trans (by repeat (first | (with_reducible first | exact HK.out | apply KeepBut.set_ | apply keep_drewN | apply keep_drew | apply keep_alloc) | exact HK.out)) (KeepBut.of_below hb g none) (.inl rfl)); have n2_ := Aside0.mk (below_step (by repeat (first | (with_reducible first | exact HB.out | apply below_alloc | apply pw_below_drewN | apply below_drew1 | refine below_set ?_ (IsS47.ge HI0.out)) | exact HB.out)) hb); have n3_ := Aside0.mk (hbox); have n4_ := Aside0.mk ((by rw [hg]; exact (keep_size (w := w) (g := g) (row := none) (by repeat (first | (with_reducible first | exact HK.out | apply KeepBut.set_ | apply keep_drewN | apply keep_drew | apply keep_alloc) | exact HK.out))) : w.heap.size ≤ gb158)); have n5_ := Aside0.mk ((Nat.le_trans HW0.out (by rw [hg]; exact (keep_size (w := w) (g := g) (row := none) (by repeat (first | (with_reducible first | exact HK.out | apply KeepBut.set_ | apply keep_drewN | apply keep_drew | apply keep_alloc) | exact HK.out))) : w.heap.size ≤ gb158) : w0.heap.size ≤ gb158)); have n6_ := Aside0.mk ((by rw [hg]; exact Nat.ne_of_lt (IsS47.lt (show IsS47 w0 _ g s0_0 s0_1 from by repeat (first | (with_reducible first | exact HI0.out | apply IsS47.alloc | apply IsS47.drewN | apply IsS47.drew | apply IsS47.set_0 | apply IsS47.set_1) | exact HI0.out))) : g ≠ gb158)); have n7_ := Aside0.mk ((by rw [hg]; exact Nat.ne_of_gt (IsS47.lt (show IsS47 w0 _ g s0_0 s0_1 from by repeat (first | (with_reducible first | exact HI0.out | apply IsS47.alloc | apply IsS47.drewN | apply IsS47.drew | apply IsS47.set_0 | apply IsS47.set_1) | exact HI0.out))) : gb158 ≠ g)); clear HI0; clear HK; clear HB; have HI0 := n0_; have HK := n1_; have HB := n2_; have BK158 := n3_; have GW158 := n4_; have GE158 := n5_; have NB0_158 := n6_; have NB158_0 := n7_; clear n0_ n1_ n2_ n3_ n4_ n5_ n6_ n7_; clear hb hbox hg; have hnb33 := NB158_0.out; have hnc33 := NB0_158.out; have hcz34_0 : w32.cell? ⟨gb158, 0, none⟩ = some (.int .i64 a1_0) := (blk_cell BK158.out 0).trans rfl; have hcz34_1 : w32.cell? ⟨gb158, 1, none⟩ = some (.int .i32 a1_1) := (blk_cell BK158.out 1).trans rfl; have hfz34_0 := blk_frozen BK158.out 0; have hfz34_1 := blk_frozen BK158.out 1; obtain ⟨HGz35, hgz35⟩ := HI0.out; have hcz35_0 := cellS47_0 HGz35; have hcz35_1 := cellS47_1 HGz35; have hfz35_0 := blk_frozen HGz35 0; have hfz35_1 := blk_frozen HGz35 1; clear HGz35 hgz35) | (go_at_call 33; (with_reducible refine (resource_positiveScaleInt64.calls k s0_0 (wrap32 (s0_1 - a1_1)) t161 true _ A24.out).mono ?_); rintro e w' ⟨rfl, ⟨nd, rfl⟩⟩; (try first | exact ⟨rfl, _, World.drewN_drewN _ _ _⟩ | exact ⟨rfl, _, Eq.trans (World.drewN_drewN _ _ _) (congrArg (World.drewN _) (Nat.add_assoc _ _ _))⟩)) | (go_at_call 32; (with_reducible refine (resource_int64Add.calls k t161 a1_0 t163 false _ A26.out).mono ?_); rintro e w' ⟨rfl, ⟨nd, rfl⟩⟩; (try first | exact ⟨rfl, _, World.drewN_drewN _ _ _⟩ | exact ⟨rfl, _, Eq.trans (World.drewN_drewN _ _ _) (congrArg (World.drewN _) (Nat.add_assoc _ _ _))⟩)))
              repeat (go_quiet (first | ((with_reducible refine gate_dst (N := 3) rfl ?_); refine box_event ?hg (N := 3) ?hd (cs := #[.int .i64 a1_0, .int .i32 a1_1]) (t := 47) ?hr ?_; (case hd => rfl); (case hg => rfl); (case hr => first | (go_simp; done) | (go_simp; rfl)); intro gb158 hg w32 hbox hb; have n0_ := Aside0.mk (IsS47.below (by repeat (first | (with_reducible first | exact HI0.out | apply IsS47.alloc | apply IsS47.drewN | apply IsS47.drew | apply IsS47.set_0 | apply IsS47.set_1) | exact HI0.out)) hb); have n1_ := Aside0.mk (KeepBut.trans (by repeat (first | (with_reducible first | exact HK.out | apply KeepBut.set_ | apply keep_drewN | apply keep_drew | apply keep_alloc) | exact HK.out)) (KeepBut.of_below hb g none) (.inl rfl)); have n2_ := Aside0.mk (below_step (by repeat (first | (with_reducible first | exact HB.out | apply below_alloc | apply pw_below_drewN | apply below_drew1 | refine below_set ?_ (IsS47.ge HI0.out)) | exact HB.out)) hb); have n3_ := Aside0.mk (hbox); have n4_ := Aside0.mk ((by rw [hg]; exact (keep_size (w := w) (g := g) (row := none) (by repeat (first | (with_reducible first | exact HK.out | apply KeepBut.set_ | apply keep_drewN | apply keep_drew | apply keep_alloc) | exact HK.out))) : w.heap.size ≤ gb158)); have n5_ := Aside0.mk ((Nat.le_trans HW0.out (by rw [hg]; exact (keep_size (w := w) (g := g) (row := none) (by repeat (first | (with_reducible first | exact HK.out | apply KeepBut.set_ | apply keep_drewN | apply keep_drew | apply keep_alloc) | exact HK.out))) : w.heap.size ≤ gb158) : w0.heap.size ≤ gb158)); have n6_ := Aside0.mk ((by rw [hg]; exact Nat.ne_of_lt (IsS47.lt (show IsS47 w0 _ g s0_0 s0_1 from by repeat (first | (with_reducible first | exact HI0.out | apply IsS47.alloc | apply IsS47.drewN | apply IsS47.drew | apply IsS47.set_0 | apply IsS47.set_1) | exact HI0.out))) : g ≠ gb158)); have n7_ := Aside0.mk ((by rw [hg]; exact Nat.ne_of_gt (IsS47.lt (show IsS47 w0 _ g s0_0 s0_1 from by repeat (first | (with_reducible first | exact HI0.out | apply IsS47.alloc | apply IsS47.drewN | apply IsS47.drew | apply IsS47.set_0 | apply IsS47.set_1) | exact HI0.out))) : gb158 ≠ g)); clear HI0; clear HK; clear HB; have HI0 := n0_; have HK := n1_; have HB := n2_; have BK158 := n3_; have GW158 := n4_; have GE158 := n5_; have NB0_158 := n6_; have NB158_0 := n7_; clear n0_ n1_ n2_ n3_ n4_ n5_ n6_ n7_; clear hb hbox hg; have hnb33 := NB158_0.out; have hnc33 := NB0_158.out; have hcz34_0 : w32.cell? ⟨gb158, 0, none⟩ = some (.int .i64 a1_0) := (blk_cell BK158.out 0).trans rfl; have hcz34_1 : w32.cell? ⟨gb158, 1, none⟩ = some (.int .i32 a1_1) := (blk_cell BK158.out 1).trans rfl; have hfz34_0 := blk_frozen BK158.out 0; have hfz34_1 := blk_frozen BK158.out 1; obtain ⟨HGz35, hgz35⟩ := HI0.out; have hcz35_0 := cellS47_0 HGz35; have hcz35_1 := cellS47_1 HGz35; have hfz35_0 := blk_frozen HGz35 0; have hfz35_1 := blk_frozen HGz35 1; clear HGz35 hgz35) | (go_at_call 33; (with_reducible refine (resource_positiveScaleInt64.calls k s0_0 (wrap32 (s0_1 - a1_1)) t161 true _ A24.out).mono ?_); rintro e w' ⟨rfl, ⟨nd, rfl⟩⟩; (try first | exact ⟨rfl, _, World.drewN_drewN _ _ _⟩ | exact ⟨rfl, _, Eq.trans (World.drewN_drewN _ _ _) (congrArg (World.drewN _) (Nat.add_assoc _ _ _))⟩)) | (go_at_call 32; (with_reducible refine (resource_int64Add.calls k t161 a1_0 t163 false _ A26.out).mono ?_); rintro e w' ⟨rfl, ⟨nd, rfl⟩⟩; (try first | exact ⟨rfl, _, World.drewN_drewN _ _ _⟩ | exact ⟨rfl, _, Eq.trans (World.drewN_drewN _ _ _) (congrArg (World.drewN _) (Nat.add_assoc _ _ _))⟩))); try go_wp2_with (first | ((with_reducible refine gate_dst (N := 3) rfl ?_); refine box_event ?hg (N := 3) ?hd (cs := #[.int .i64 a1_0, .int .i32 a1_1]) (t := 47) ?hr ?_; (case hd => rfl); (case hg => rfl); (case hr => first | (go_simp; done) | (go_simp; rfl)); intro gb158 hg w32 hbox hb; have n0_ := Aside0.mk (IsS47.below (by repeat (first | (with_reducible first | exact HI0.out | apply IsS47.alloc | apply IsS47.drewN | apply IsS47.drew | apply IsS47.set_0 | apply IsS47.set_1) | exact HI0.out)) hb); have n1_ := Aside0.mk (KeepBut.trans (by repeat (first | (with_reducible first | exact HK.out | apply KeepBut.set_ | apply keep_drewN | apply keep_drew | apply keep_alloc) | exact HK.out)) (KeepBut.of_below hb g none) (.inl rfl)); have n2_ := Aside0.mk (below_step (by repeat (first | (with_reducible first | exact HB.out | apply below_alloc | apply pw_below_drewN | apply below_drew1 | refine below_set ?_ (IsS47.ge HI0.out)) | exact HB.out)) hb); have n3_ := Aside0.mk (hbox); have n4_ := Aside0.mk ((by rw [hg]; exact (keep_size (w := w) (g := g) (row := none) (by repeat (first | (with_reducible first | exact HK.out | apply KeepBut.set_ | apply keep_drewN | apply keep_drew | apply keep_alloc) | exact HK.out))) : w.heap.size ≤ gb158)); have n5_ := Aside0.mk ((Nat.le_trans HW0.out (by rw [hg]; exact (keep_size (w := w) (g := g) (row := none) (by repeat (first | (with_reducible first | exact HK.out | apply KeepBut.set_ | apply keep_drewN | apply keep_drew | apply keep_alloc) | exact HK.out))) : w.heap.size ≤ gb158) : w0.heap.size ≤ gb158)); have n6_ := Aside0.mk ((by rw [hg]; exact Nat.ne_of_lt (IsS47.lt (show IsS47 w0 _ g s0_0 s0_1 from by repeat (first | (with_reducible first | exact HI0.out | apply IsS47.alloc | apply IsS47.drewN | apply IsS47.drew | apply IsS47.set_0 | apply IsS47.set_1) | exact HI0.out))) : g ≠ gb158)); have n7_ := Aside0.mk ((by rw [hg]; exact Nat.ne_of_gt (IsS47.lt (show IsS47 w0 _ g s0_0 s0_1 from by repeat (first | (with_reducible first | exact HI0.out | apply IsS47.alloc | apply IsS47.drewN | apply IsS47.drew | apply IsS47.set_0 | apply IsS47.set_1) | exact HI0.out))) : gb158 ≠ g)); clear HI0; clear HK; clear HB; have HI0 := n0_; have HK := n1_; have HB := n2_; have BK158 := n3_; have GW158 := n4_; have GE158 := n5_; have NB0_158 := n6_; have NB158_0 := n7_; clear n0_ n1_ n2_ n3_ n4_ n5_ n6_ n7_; clear hb hbox hg; have hnb33 := NB158_0.out; have hnc33 := NB0_158.out; have hcz34_0 : w32.cell? ⟨gb158, 0, none⟩ = some (.int .i64 a1_0) := (blk_cell BK158.out 0).trans rfl; have hcz34_1 : w32.cell? ⟨gb158, 1, none⟩ = some (.int .i32 a1_1) := (blk_cell BK158.out 1).trans rfl; have hfz34_0 := blk_frozen BK158.out 0; have hfz34_1 := blk_frozen BK158.out 1; obtain ⟨HGz35, hgz35⟩ := HI0.out; have hcz35_0 := cellS47_0 HGz35; have hcz35_1 := cellS47_1 HGz35; have hfz35_0 := blk_frozen HGz35 0; have hfz35_1 := blk_frozen HGz35 1; clear HGz35 hgz35) | (go_at_call 33; (with_reducible refine (resource_positiveScaleInt64.calls k s0_0 (wrap32 (s0_1 - a1_1)) t161 true _ A24.out).mono ?_); rintro e w' ⟨rfl, ⟨nd, rfl⟩⟩; (try first | exact ⟨rfl, _, World.drewN_drewN _ _ _⟩ | exact ⟨rfl, _, Eq.trans (World.drewN_drewN _ _ _) (congrArg (World.drewN _) (Nat.add_assoc _ _ _))⟩)) | (go_at_call 32; (with_reducible refine (resource_int64Add.calls k t161 a1_0 t163 false _ A26.out).mono ?_); rintro e w' ⟨rfl, ⟨nd, rfl⟩⟩; (try first | exact ⟨rfl, _, World.drewN_drewN _ _ _⟩ | exact ⟨rfl, _, Eq.trans (World.drewN_drewN _ _ _) (congrArg (World.drewN _) (Nat.add_assoc _ _ _))⟩))))
              go_ret
              exact ⟨by first | rfl | (simp [errW_none, errW_some] <;> rfl) | (simp [*, errW_none, errW_some] <;> rfl), by repeat (first | (with_reducible first | exact HI0.out | apply IsS47.alloc | apply IsS47.drewN | apply IsS47.drew | apply IsS47.set_0 | apply IsS47.set_1 | refine IsS47.far ?_ NB0_158.out _) | exact HI0.out), by repeat (first | (with_reducible first | exact HB.out | apply below_alloc | apply pw_below_drewN | apply below_drew1 | refine below_set ?_ (IsS47.ge HI0.out) | refine below_set ?_ GE158.out) | exact HB.out), by repeat (first | (with_reducible first | exact HK.out | apply KeepBut.set_ | apply keep_drewN | apply keep_drew | apply keep_alloc | refine keep_far ?_ GW158.out _) | exact HK.out)⟩
          · replace c25 := Bool.eq_false_iff.mpr c25
            subst c25
            have H1 : (some (false, s0_0, s0_1)) = some (r1, r2, r3) := by rw [if_neg (show ¬ (false = true) by decide)] at H; exact H
            clear H
            have H := H1
            clear H1
            simp only [Option.some.injEq, Prod.mk.injEq] at H
            obtain ⟨rfl, rfl, rfl⟩ := H
            go_enter Try.func27, Try.ntmps27
            go_wp2_with (first | ((with_reducible refine gate_dst (N := 3) rfl ?_); refine box_event ?hg (N := 3) ?hd (cs := #[.int .i64 a1_0, .int .i32 a1_1]) (t := 47) ?hr ?_; (case hd => rfl); (case hg => rfl); (case hr => first | (go_simp; done) | (go_simp; rfl)); intro gb158 hg w36 hbox hb; have n0_ := Aside0.mk (IsS47.below (by repeat (first | (with_reducible first | exact HI0.out | apply IsS47.alloc | apply IsS47.drewN | apply IsS47.drew | apply IsS47.set_0 | apply IsS47.set_1) | exact HI0.out)) hb); have n1_ := Aside0.mk (KeepBut.trans (by repeat (first | (with_reducible first | exact HK.out | apply KeepBut.set_ | apply keep_drewN | apply keep_drew | apply keep_alloc) | exact HK.out)) (KeepBut.of_below hb g none) (.inl rfl)); have n2_ := Aside0.mk (below_step (by repeat (first | (with_reducible first | exact HB.out | apply below_alloc | apply pw_below_drewN | apply below_drew1 | refine below_set ?_ (IsS47.ge HI0.out)) | exact HB.out)) hb); have n3_ := Aside0.mk (hbox); have n4_ := Aside0.mk ((by rw [hg]; exact (keep_size (w := w) (g := g) (row := none) (by repeat (first | (with_reducible first | exact HK.out | apply KeepBut.set_ | apply keep_drewN | apply keep_drew | apply keep_alloc) | exact HK.out))) : w.heap.size ≤ gb158)); have n5_ := Aside0.mk ((Nat.le_trans HW0.out (by rw [hg]; exact (keep_size (w := w) (g := g) (row := none) (by repeat (first | (with_reducible first | exact HK.out | apply KeepBut.set_ | apply keep_drewN | apply keep_drew | apply keep_alloc) | exact HK.out))) : w.heap.size ≤ gb158) : w0.heap.size ≤ gb158)); have n6_ := Aside0.mk ((by rw [hg]; exact Nat.ne_of_lt (IsS47.lt (show IsS47 w0 _ g s0_0 s0_1 from by repeat (first | (with_reducible first | exact HI0.out | apply IsS47.alloc | apply IsS47.drewN | apply IsS47.drew | apply IsS47.set_0 | apply IsS47.set_1) | exact HI0.out))) : g ≠ gb158)); have n7_ := Aside0.mk ((by rw [hg]; exact Nat.ne_of_gt (IsS47.lt (show IsS47 w0 _ g s0_0 s0_1 from by repeat (first | (with_reducible first | exact HI0.out | apply IsS47.alloc | apply IsS47.drewN | apply IsS47.drew | apply IsS47.set_0 | apply IsS47.set_1) | exact HI0.out))) : gb158 ≠ g)); clear HI0; clear HK; clear HB; have HI0 := n0_; have HK := n1_; have HB := n2_; have BK158 := n3_; have GW158 := n4_; have GE158 := n5_; have NB0_158 := n6_; have NB158_0 := n7_; clear n0_ n1_ n2_ n3_ n4_ n5_ n6_ n7_; clear hb hbox hg; have hnb37 := NB158_0.out; have hnc37 := NB0_158.out; have hcz38_0 : w36.cell? ⟨gb158, 0, none⟩ = some (.int .i64 a1_0) := (blk_cell BK158.out 0).trans rfl; have hcz38_1 : w36.cell? ⟨gb158, 1, none⟩ = some (.int .i32 a1_1) := (blk_cell BK158.out 1).trans rfl; have hfz38_0 := blk_frozen BK158.out 0; have hfz38_1 := blk_frozen BK158.out 1; obtain ⟨HGz39, hgz39⟩ := HI0.out; have hcz39_0 := cellS47_0 HGz39; have hcz39_1 := cellS47_1 HGz39; have hfz39_0 := blk_frozen HGz39 0; have hfz39_1 := blk_frozen HGz39 1; clear HGz39 hgz39) | (go_at_call 33; (with_reducible refine (resource_positiveScaleInt64.calls k s0_0 (wrap32 (s0_1 - a1_1)) t161 false _ A24.out).mono ?_); rintro e w' ⟨rfl, ⟨nd, rfl⟩⟩; (try first | exact ⟨rfl, _, World.drewN_drewN _ _ _⟩ | exact ⟨rfl, _, Eq.trans (World.drewN_drewN _ _ _) (congrArg (World.drewN _) (Nat.add_assoc _ _ _))⟩)))
            repeat (go_quiet (first | ((with_reducible refine gate_dst (N := 3) rfl ?_); refine box_event ?hg (N := 3) ?hd (cs := #[.int .i64 a1_0, .int .i32 a1_1]) (t := 47) ?hr ?_; (case hd => rfl); (case hg => rfl); (case hr => first | (go_simp; done) | (go_simp; rfl)); intro gb158 hg w36 hbox hb; have n0_ := Aside0.mk (IsS47.below (by repeat (first | (with_reducible first | exact HI0.out | apply IsS47.alloc | apply IsS47.drewN | apply IsS47.drew | apply IsS47.set_0 | apply IsS47.set_1) | exact HI0.out)) hb); have n1_ := Aside0.mk (KeepBut.trans (by repeat (first | (with_reducible first | exact HK.out | apply KeepBut.set_ | apply keep_drewN | apply keep_drew | apply keep_alloc) | exact HK.out)) (KeepBut.of_below hb g none) (.inl rfl)); have n2_ := Aside0.mk (below_step (by repeat (first | (with_reducible first | exact HB.out | apply below_alloc | apply pw_below_drewN | apply below_drew1 | refine below_set ?_ (IsS47.ge HI0.out)) | exact HB.out)) hb); have n3_ := Aside0.mk (hbox); have n4_ := Aside0.mk ((by rw [hg]; exact (keep_size (w := w) (g := g) (row := none) (by repeat (first | (with_reducible first | exact HK.out | apply KeepBut.set_ | apply keep_drewN | apply keep_drew | apply keep_alloc) | exact HK.out))) : w.heap.size ≤ gb158)); have n5_ := Aside0.mk ((Nat.le_trans HW0.out (by rw [hg]; exact (keep_size (w := w) (g := g) (row := none) (by repeat (first | (with_reducible first | exact HK.out | apply KeepBut.set_ | apply keep_drewN | apply keep_drew | apply keep_alloc) | exact HK.out))) : w.heap.size ≤ gb158) : w0.heap.size ≤ gb158)); have n6_ := Aside0.mk ((by rw [hg]; exact Nat.ne_of_lt (IsS47.lt (show IsS47 w0 _ g s0_0 s0_1 from by repeat (first | (with_reducible first | exact HI0.out | apply IsS47.alloc | apply IsS47.drewN | apply IsS47.drew | apply IsS47.set_0 | apply IsS47.set_1) | exact HI0.out))) : g ≠ gb158)); have n7_ := Aside0.mk ((by rw [hg]; exact Nat.ne_of_gt (IsS47.lt (show IsS47 w0 _ g s0_0 s0_1 from by repeat (first | (with_reducible first | exact HI0.out | apply IsS47.alloc | apply IsS47.drewN | apply IsS47.drew | apply IsS47.set_0 | apply IsS47.set_1) | exact HI0.out))) : gb158 ≠ g)); clear HI0; clear HK; clear HB; have HI0 := n0_; have HK := n1_; have HB := n2_; have BK158 := n3_; have GW158 := n4_; have GE158 := n5_; have NB0_158 := n6_; have NB158_0 := n7_; clear n0_ n1_ n2_ n3_ n4_ n5_ n6_ n7_; clear hb hbox hg; have hnb37 := NB158_0.out; have hnc37 := NB0_158.out; have hcz38_0 : w36.cell? ⟨gb158, 0, none⟩ = some (.int .i64 a1_0) := (blk_cell BK158.out 0).trans rfl; have hcz38_1 : w36.cell? ⟨gb158, 1, none⟩ = some (.int .i32 a1_1) := (blk_cell BK158.out 1).trans rfl; have hfz38_0 := blk_frozen BK158.out 0; have hfz38_1 := blk_frozen BK158.out 1; obtain ⟨HGz39, hgz39⟩ := HI0.out; have hcz39_0 := cellS47_0 HGz39; have hcz39_1 := cellS47_1 HGz39; have hfz39_0 := blk_frozen HGz39 0; have hfz39_1 := blk_frozen HGz39 1; clear HGz39 hgz39) | (go_at_call 33; (with_reducible refine (resource_positiveScaleInt64.calls k s0_0 (wrap32 (s0_1 - a1_1)) t161 false _ A24.out).mono ?_); rintro e w' ⟨rfl, ⟨nd, rfl⟩⟩; (try first | exact ⟨rfl, _, World.drewN_drewN _ _ _⟩ | exact ⟨rfl, _, Eq.trans (World.drewN_drewN _ _ _) (congrArg (World.drewN _) (Nat.add_assoc _ _ _))⟩))); try go_wp2_with (first | ((with_reducible refine gate_dst (N := 3) rfl ?_); refine box_event ?hg (N := 3) ?hd (cs := #[.int .i64 a1_0, .int .i32 a1_1]) (t := 47) ?hr ?_; (case hd => rfl); (case hg => rfl); (case hr => first | (go_simp; done) | (go_simp; rfl)); intro gb158 hg w36 hbox hb; have n0_ := Aside0.mk (IsS47.below (by repeat (first | (with_reducible first | exact HI0.out | apply IsS47.alloc | apply IsS47.drewN | apply IsS47.drew | apply IsS47.set_0 | apply IsS47.set_1) | exact HI0.out)) hb); have n1_ := Aside0.mk (KeepBut.trans (by repeat (first | (with_reducible first | exact HK.out | apply KeepBut.set_ | apply keep_drewN | apply keep_drew | apply keep_alloc) | exact HK.out)) (KeepBut.of_below hb g none) (.inl rfl)); have n2_ := Aside0.mk (below_step (by repeat (first | (with_reducible first | exact HB.out | apply below_alloc | apply pw_below_drewN | apply below_drew1 | refine below_set ?_ (IsS47.ge HI0.out)) | exact HB.out)) hb); have n3_ := Aside0.mk (hbox); have n4_ := Aside0.mk ((by rw [hg]; exact (keep_size (w := w) (g := g) (row := none) (by repeat (first | (with_reducible first | exact HK.out | apply KeepBut.set_ | apply keep_drewN | apply keep_drew | apply keep_alloc) | exact HK.out))) : w.heap.size ≤ gb158)); have n5_ := Aside0.mk ((Nat.le_trans HW0.out (by rw [hg]; exact (keep_size (w := w) (g := g) (row := none) (by repeat (first | (with_reducible first | exact HK.out | apply KeepBut.set_ | apply keep_drewN | apply keep_drew | apply keep_alloc) | exact HK.out))) : w.heap.size ≤ gb158) : w0.heap.size ≤ gb158)); have n6_ := Aside0.mk ((by rw [hg]; exact Nat.ne_of_lt (IsS47.lt (show IsS47 w0 _ g s0_0 s0_1 from by repeat (first | (with_reducible first | exact HI0.out | apply IsS47.alloc | apply IsS47.drewN | apply IsS47.drew | apply IsS47.set_0 | apply IsS47.set_1) | exact HI0.out))) : g ≠ gb158)); have n7_ := Aside0.mk ((by rw [hg]; exact Nat.ne_of_gt (IsS47.lt (show IsS47 w0 _ g s0_0 s0_1 from by repeat (first | (with_reducible first | exact HI0.out | apply IsS47.alloc | apply IsS47.drewN | apply IsS47.drew | apply IsS47.set_0 | apply IsS47.set_1) | exact HI0.out))) : gb158 ≠ g)); clear HI0; clear HK; clear HB; have HI0 := n0_; have HK := n1_; have HB := n2_; have BK158 := n3_; have GW158 := n4_; have GE158 := n5_; have NB0_158 := n6_; have NB158_0 := n7_; clear n0_ n1_ n2_ n3_ n4_ n5_ n6_ n7_; clear hb hbox hg; have hnb37 := NB158_0.out; have hnc37 := NB0_158.out; have hcz38_0 : w36.cell? ⟨gb158, 0, none⟩ = some (.int .i64 a1_0) := (blk_cell BK158.out 0).trans rfl; have hcz38_1 : w36.cell? ⟨gb158, 1, none⟩ = some (.int .i32 a1_1) := (blk_cell BK158.out 1).trans rfl; have hfz38_0 := blk_frozen BK158.out 0; have hfz38_1 := blk_frozen BK158.out 1; obtain ⟨HGz39, hgz39⟩ := HI0.out; have hcz39_0 := cellS47_0 HGz39; have hcz39_1 := cellS47_1 HGz39; have hfz39_0 := blk_frozen HGz39 0; have hfz39_1 := blk_frozen HGz39 1; clear HGz39 hgz39) | (go_at_call 33; (with_reducible refine (resource_positiveScaleInt64.calls k s0_0 (wrap32 (s0_1 - a1_1)) t161 false _ A24.out).mono ?_); rintro e w' ⟨rfl, ⟨nd, rfl⟩⟩; (try first | exact ⟨rfl, _, World.drewN_drewN _ _ _⟩ | exact ⟨rfl, _, Eq.trans (World.drewN_drewN _ _ _) (congrArg (World.drewN _) (Nat.add_assoc _ _ _))⟩))))
            go_ret
            exact ⟨by first | rfl | (simp [errW_none, errW_some] <;> rfl) | (simp [*, errW_none, errW_some] <;> rfl), by repeat (first | (with_reducible first | exact HI0.out | apply IsS47.alloc | apply IsS47.drewN | apply IsS47.drew | apply IsS47.set_0 | apply IsS47.set_1 | refine IsS47.far ?_ NB0_158.out _) | exact HI0.out), by repeat (first | (with_reducible first | exact HB.out | apply below_alloc | apply pw_below_drewN | apply below_drew1 | refine below_set ?_ (IsS47.ge HI0.out) | refine below_set ?_ GE158.out) | exact HB.out), by repeat (first | (with_reducible first | exact HK.out | apply KeepBut.set_ | apply keep_drewN | apply keep_drew | apply keep_alloc | refine keep_far ?_ GW158.out _) | exact HK.out)⟩
        · rw [if_neg c23] at H
          have c23b0 : decide (a1_1 < s0_1) = false := decide_eq_false c23
          clear c23
          replace H := Option.bind_eq_some_iff.mp H
          obtain ⟨⟨t165, t166⟩, A400, H⟩ := H
          replace H : (if t166 = true then ((resource_int64Add.f k s0_0 t165).bind fun bt167 => (if bt167.2 = true then (some (true, bt167.1, s0_1)) else (some (false, s0_0, s0_1)))) else (some (false, s0_0, s0_1))) = some (r1, r2, r3) := H
          have A40 := Aside0.mk A400
          clear A400
          by_cases c41 : t166 = true
          · subst c41
            have H1 : ((resource_int64Add.f k s0_0 t165).bind fun bt167 => (if bt167.2 = true then (some (true, bt167.1, s0_1)) else (some (false, s0_0, s0_1)))) = some (r1, r2, r3) := by rw [if_pos rfl] at H; exact H
            clear H
            have H := H1
            clear H1
            replace H := Option.bind_eq_some_iff.mp H
            obtain ⟨⟨t167, t168⟩, A420, H⟩ := H
            replace H : (if t168 = true then (some (true, t167, s0_1)) else (some (false, s0_0, s0_1))) = some (r1, r2, r3) := H
            have A42 := Aside0.mk A420
            clear A420
            by_cases c43 : t168 = true
            · subst c43
              have H1 : (some (true, t167, s0_1)) = some (r1, r2, r3) := by rw [if_pos rfl] at H; exact H
              clear H
              have H := H1
              clear H1
              simp only [Option.some.injEq, Prod.mk.injEq] at H
              obtain ⟨rfl, rfl, rfl⟩ := H
              go_enter Try.func27, Try.ntmps27
              go_wp2_with (first | ((with_reducible refine gate_dst (N := 3) rfl ?_); refine box_event ?hg (N := 3) ?hd (cs := #[.int .i64 a1_0, .int .i32 a1_1]) (t := 47) ?hr ?_; (case hd => rfl); (case hg => rfl); (case hr => first | (go_simp; done) | (go_simp; rfl)); intro gb158 hg w44 hbox hb; have n0_ := Aside0.mk (IsS47.below (by repeat (first | (with_reducible first | exact HI0.out | apply IsS47.alloc | apply IsS47.drewN | apply IsS47.drew | apply IsS47.set_0 | apply IsS47.set_1) | exact HI0.out)) hb); have n1_ := Aside0.mk (KeepBut.trans (by repeat (first | (with_reducible first | exact HK.out | apply KeepBut.set_ | apply keep_drewN | apply keep_drew | apply keep_alloc) | exact HK.out)) (KeepBut.of_below hb g none) (.inl rfl)); have n2_ := Aside0.mk (below_step (by repeat (first | (with_reducible first | exact HB.out | apply below_alloc | apply pw_below_drewN | apply below_drew1 | refine below_set ?_ (IsS47.ge HI0.out)) | exact HB.out)) hb); have n3_ := Aside0.mk (hbox); have n4_ := Aside0.mk ((by rw [hg]; exact (keep_size (w := w) (g := g) (row := none) (by repeat (first | (with_reducible first | exact HK.out | apply KeepBut.set_ | apply keep_drewN | apply keep_drew | apply keep_alloc) | exact HK.out))) : w.heap.size ≤ gb158)); have n5_ := Aside0.mk ((Nat.le_trans HW0.out (by rw [hg]; exact (keep_size (w := w) (g := g) (row := none) (by repeat (first | (with_reducible first | exact HK.out | apply KeepBut.set_ | apply keep_drewN | apply keep_drew | apply keep_alloc) | exact HK.out))) : w.heap.size ≤ gb158) : w0.heap.size ≤ gb158)); have n6_ := Aside0.mk ((by rw [hg]; exact Nat.ne_of_lt (IsS47.lt (show IsS47 w0 _ g s0_0 s0_1 from by repeat (first | (with_reducible first | exact HI0.out | apply IsS47.alloc | apply IsS47.drewN | apply IsS47.drew | apply IsS47.set_0 | apply IsS47.set_1) | exact HI0.out))) : g ≠ gb158)); have n7_ := Aside0.mk ((by rw [hg]; exact Nat.ne_of_gt (IsS47.lt (show IsS47 w0 _ g s0_0 s0_1 from by repeat (first | (with_reducible first | exact HI0.out | apply IsS47.alloc | apply IsS47.drewN | apply IsS47.drew | apply IsS47.set_0 | apply IsS47.set_1) | exact HI0.out))) : gb158 ≠ g)); clear HI0; clear HK; clear HB; have HI0 := n0_; have HK := n1_; have HB := n2_; have BK158 := n3_; have GW158 := n4_; have GE158 := n5_; have NB0_158 := n6_; have NB158_0 := n7_; clear n0_ n1_ n2_ n3_ n4_ n5_ n6_ n7_; clear hb hbox hg; have hnb45 := NB158_0.out; have hnc45 := NB0_158.out; have hcz46_0 : w44.cell? ⟨gb158, 0, none⟩ = some (.int .i64 a1_0) := (blk_cell BK158.out 0).trans rfl; have hcz46_1 : w44.cell? ⟨gb158, 1, none⟩ = some (.int .i32 a1_1) := (blk_cell BK158.out 1).trans rfl; have hfz46_0 := blk_frozen BK158.out 0; have hfz46_1 := blk_frozen BK158.out 1; obtain ⟨HGz47, hgz47⟩ := HI0.out; have hcz47_0 := cellS47_0 HGz47; have hcz47_1 := cellS47_1 HGz47; have hfz47_0 := blk_frozen HGz47 0; have hfz47_1 := blk_frozen HGz47 1; clear HGz47 hgz47) | (go_at_call 33; (with_reducible refine (resource_positiveScaleInt64.calls k a1_0 (wrap32 (a1_1 - s0_1)) t165 true _ A40.out).mono ?_); rintro e w' ⟨rfl, ⟨nd, rfl⟩⟩; (try first | exact ⟨rfl, _, World.drewN_drewN _ _ _⟩ | exact ⟨rfl, _, Eq.trans (World.drewN_drewN _ _ _) (congrArg (World.drewN _) (Nat.add_assoc _ _ _))⟩)) | (go_at_call 32; (with_reducible refine (resource_int64Add.calls k s0_0 t165 t167 true _ A42.out).mono ?_); rintro e w' ⟨rfl, ⟨nd, rfl⟩⟩; (try first | exact ⟨rfl, _, World.drewN_drewN _ _ _⟩ | exact ⟨rfl, _, Eq.trans (World.drewN_drewN _ _ _) (congrArg (World.drewN _) (Nat.add_assoc _ _ _))⟩)))
              repeat (go_quiet (first | ((with_reducible refine gate_dst (N := 3) rfl ?_); refine box_event ?hg (N := 3) ?hd (cs := #[.int .i64 a1_0, .int .i32 a1_1]) (t := 47) ?hr ?_; (case hd => rfl); (case hg => rfl); (case hr => first | (go_simp; done) | (go_simp; rfl)); intro gb158 hg w44 hbox hb; have n0_ := Aside0.mk (IsS47.below (by repeat (first | (with_reducible first | exact HI0.out | apply IsS47.alloc | apply IsS47.drewN | apply IsS47.drew | apply IsS47.set_0 | apply IsS47.set_1) | exact HI0.out)) hb); have n1_ := Aside0.mk (KeepBut.trans (by repeat (first | (with_reducible first | exact HK.out | apply KeepBut.set_ | apply keep_drewN | apply keep_drew | apply keep_alloc) | exact HK.out)) (KeepBut.of_below hb g none) (.inl rfl)); have n2_ := Aside0.mk (below_step (by repeat (first | (with_reducible first | exact HB.out | apply below_alloc | apply pw_below_drewN | apply below_drew1 | refine below_set ?_ (IsS47.ge HI0.out)) | exact HB.out)) hb); have n3_ := Aside0.mk (hbox); have n4_ := Aside0.mk ((by rw [hg]; exact (keep_size (w := w) (g := g) (row := none) (by repeat (first | (with_reducible first | exact HK.out | apply KeepBut.set_ | apply keep_drewN | apply keep_drew | apply keep_alloc) | exact HK.out))) : w.heap.size ≤ gb158)); have n5_ := Aside0.mk ((Nat.le_trans HW0.out (by rw [hg]; exact (keep_size (w := w) (g := g) (row := none) (by repeat (first | (with_reducible first | exact HK.out | apply KeepBut.set_ | apply keep_drewN | apply keep_drew | apply keep_alloc) | exact HK.out))) : w.heap.size ≤ gb158) : w0.heap.size ≤ gb158)); have n6_ := Aside0.mk ((by rw [hg]; exact Nat.ne_of_lt (IsS47.lt (show IsS47 w0 _ g s0_0 s0_1 from by repeat (first | (with_reducible first | exact HI0.out | apply IsS47.alloc | apply IsS47.drewN | apply IsS47.drew | apply IsS47.set_0 | apply IsS47.set_1) | exact HI0.out))) : g ≠ gb158)); have n7_ := Aside0.mk ((by rw [hg]; exact Nat.ne_of_gt (IsS47.lt (show IsS47 w0 _ g s0_0 s0_1 from by repeat (first | (with_reducible first | exact HI0.out | apply IsS47.alloc | apply IsS47.drewN | apply IsS47.drew | apply IsS47.set_0 | apply IsS47.set_1) | exact HI0.out))) : gb158 ≠ g)); clear HI0; clear HK; clear HB; have HI0 := n0_; have HK := n1_; have HB := n2_; have BK158 := n3_; have GW158 := n4_; have GE158 := n5_; have NB0_158 := n6_; have NB158_0 := n7_; clear n0_ n1_ n2_ n3_ n4_ n5_ n6_ n7_; clear hb hbox hg; have hnb45 := NB158_0.out; have hnc45 := NB0_158.out; have hcz46_0 : w44.cell? ⟨gb158, 0, none⟩ = some (.int .i64 a1_0) := (blk_cell BK158.out 0).trans rfl; have hcz46_1 : w44.cell? ⟨gb158, 1, none⟩ = some (.int .i32 a1_1) := (blk_cell BK158.out 1).trans rfl; have hfz46_0 := blk_frozen BK158.out 0; have hfz46_1 := blk_frozen BK158.out 1; obtain ⟨HGz47, hgz47⟩ := HI0.out; have hcz47_0 := cellS47_0 HGz47; have hcz47_1 := cellS47_1 HGz47; have hfz47_0 := blk_frozen HGz47 0; have hfz47_1 := blk_frozen HGz47 1; clear HGz47 hgz47) | (go_at_call 33; (with_reducible refine (resource_positiveScaleInt64.calls k a1_0 (wrap32 (a1_1 - s0_1)) t165 true _ A40.out).mono ?_); rintro e w' ⟨rfl, ⟨nd, rfl⟩⟩; (try first | exact ⟨rfl, _, World.drewN_drewN _ _ _⟩ | exact ⟨rfl, _, Eq.trans (World.drewN_drewN _ _ _) (congrArg (World.drewN _) (Nat.add_assoc _ _ _))⟩)) | (go_at_call 32; (with_reducible refine (resource_int64Add.calls k s0_0 t165 t167 true _ A42.out).mono ?_); rintro e w' ⟨rfl, ⟨nd, rfl⟩⟩; (try first | exact ⟨rfl, _, World.drewN_drewN _ _ _⟩ | exact ⟨rfl, _, Eq.trans (World.drewN_drewN _ _ _) (congrArg (World.drewN _) (Nat.add_assoc _ _ _))⟩))); try go_wp2_with (first | ((with_reducible refine gate_dst (N := 3) rfl ?_); refine box_event ?hg (N := 3) ?hd (cs := #[.int .i64 a1_0, .int .i32 a1_1]) (t := 47) ?hr ?_; (case hd => rfl); (case hg => rfl); (case hr => first | (go_simp; done) | (go_simp; rfl)); intro gb158 hg w44 hbox hb; have n0_ := Aside0.mk (IsS47.below (by repeat (first | (with_reducible first | exact HI0.out | apply IsS47.alloc | apply IsS47.drewN | apply IsS47.drew | apply IsS47.set_0 | apply IsS47.set_1) | exact HI0.out)) hb); have n1_ := Aside0.mk (KeepBut.trans (by repeat (first | (with_reducible first | exact HK.out | apply KeepBut.set_ | apply keep_drewN | apply keep_drew | apply keep_alloc) | exact HK.out)) (KeepBut.of_below hb g none) (.inl rfl)); have n2_ := Aside0.mk (below_step (by repeat (first | (with_reducible first | exact HB.out | apply below_alloc | apply pw_below_drewN | apply below_drew1 | refine below_set ?_ (IsS47.ge HI0.out)) | exact HB.out)) hb); have n3_ := Aside0.mk (hbox); have n4_ := Aside0.mk ((by rw [hg]; exact (keep_size (w := w) (g := g) (row := none) (by repeat (first | (with_reducible first | exact HK.out | apply KeepBut.set_ | apply keep_drewN | apply keep_drew | apply keep_alloc) | exact HK.out))) : w.heap.size ≤ gb158)); have n5_ := Aside0.mk ((Nat.le_trans HW0.out (by rw [hg]; exact (keep_size (w := w) (g := g) (row := none) (by repeat (first | (with_reducible first | exact HK.out | apply KeepBut.set_ | apply keep_drewN | apply keep_drew | apply keep_alloc) | exact HK.out))) : w.heap.size ≤ gb158) : w0.heap.size ≤ gb158)); have n6_ := Aside0.mk ((by rw [hg]; exact Nat.ne_of_lt (IsS47.lt (show IsS47 w0 _ g s0_0 s0_1 from by repeat (first | (with_reducible first | exact HI0.out | apply IsS47.alloc | apply IsS47.drewN | apply IsS47.drew | apply IsS47.set_0 | apply IsS47.set_1) | exact HI0.out))) : g ≠ gb158)); have n7_ := Aside0.mk ((by rw [hg]; exact Nat.ne_of_gt (IsS47.lt (show IsS47 w0 _ g s0_0 s0_1 from by repeat (first | (with_reducible first | exact HI0.out | apply IsS47.alloc | apply IsS47.drewN | apply IsS47.drew | apply IsS47.set_0 | apply IsS47.set_1) | exact HI0.out))) : gb158 ≠ g)); clear HI0; clear HK; clear HB; have HI0 := n0_; have HK := n1_; have HB := n2_; have BK158 := n3_; have GW158 := n4_; have GE158 := n5_; have NB0_158 := n6_; have NB158_0 := n7_; clear n0_ n1_ n2_ n3_ n4_ n5_ n6_ n7_; clear hb hbox hg; have hnb45 := NB158_0.out; have hnc45 := NB0_158.out; have hcz46_0 : w44.cell? ⟨gb158, 0, none⟩ = some (.int .i64 a1_0) := (blk_cell BK158.out 0).trans rfl; have hcz46_1 : w44.cell? ⟨gb158, 1, none⟩ = some (.int .i32 a1_1) := (blk_cell BK158.out 1).trans rfl; have hfz46_0 := blk_frozen BK158.out 0; have hfz46_1 := blk_frozen BK158.out 1; obtain ⟨HGz47, hgz47⟩ := HI0.out; have hcz47_0 := cellS47_0 HGz47; have hcz47_1 := cellS47_1 HGz47; have hfz47_0 := blk_frozen HGz47 0; have hfz47_1 := blk_frozen HGz47 1; clear HGz47 hgz47) | (go_at_call 33; (with_reducible refine (resource_positiveScaleInt64.calls k a1_0 (wrap32 (a1_1 - s0_1)) t165 true _ A40.out).mono ?_); rintro e w' ⟨rfl, ⟨nd, rfl⟩⟩; (try first | exact ⟨rfl, _, World.drewN_drewN _ _ _⟩ | exact ⟨rfl, _, Eq.trans (World.drewN_drewN _ _ _) (congrArg (World.drewN _) (Nat.add_assoc _ _ _))⟩)) | (go_at_call 32; (with_reducible refine (resource_int64Add.calls k s0_0 t165 t167 true _ A42.out).mono ?_); rintro e w' ⟨rfl, ⟨nd, rfl⟩⟩; (try first | exact ⟨rfl, _, World.drewN_drewN _ _ _⟩ | exact ⟨rfl, _, Eq.trans (World.drewN_drewN _ _ _) (congrArg (World.drewN _) (Nat.add_assoc _ _ _))⟩))))
              go_ret
              exact ⟨by first | rfl | (simp [errW_none, errW_some] <;> rfl) | (simp [*, errW_none, errW_some] <;> rfl), by repeat (first | (with_reducible first | exact HI0.out | apply IsS47.alloc | apply IsS47.drewN | apply IsS47.drew | apply IsS47.set_0 | apply IsS47.set_1 | refine IsS47.far ?_ NB0_158.out _) | exact HI0.out), by repeat (first | (with_reducible first | exact HB.out | apply below_alloc | apply pw_below_drewN | apply below_drew1 | refine below_set ?_ (IsS47.ge HI0.out) | refine below_set ?_ GE158.out) | exact HB.out), by repeat (first | (with_reducible first | exact HK.out | apply KeepBut.set_ | apply keep_drewN | apply keep_drew | apply keep_alloc | refine keep_far ?_ GW158.out _) | exact HK.out)⟩
            · replace c43 := Bool.eq_false_iff.mpr c43
              subst c43
              have H1 : (some (false, s0_0, s0_1)) = some (r1, r2, r3) := by rw [if_neg (show ¬ (false = true) by decide)] at H; exact H
              clear H
              have H := H1
              clear H1
              simp only [Option.some.injEq, Prod.mk.injEq] at H
              obtain ⟨rfl, rfl, rfl⟩ := H
              go_enter Try.func27, Try.ntmps27
              go_wp2_with (first | ((with_reducible refine gate_dst (N := 3) rfl ?_); refine box_event ?hg (N := 3) ?hd (cs := #[.int .i64 a1_0, .int .i32 a1_1]) (t := 47) ?hr ?_; (case hd => rfl); (case hg => rfl); (case hr => first | (go_simp; done) | (go_simp; rfl)); intro gb158 hg w48 hbox hb; have n0_ := Aside0.mk (IsS47.below (by repeat (first | (with_reducible first | exact HI0.out | apply IsS47.alloc | apply IsS47.drewN | apply IsS47.drew | apply IsS47.set_0 | apply IsS47.set_1) | exact HI0.out)) hb); have n1_ := Aside0.mk (KeepBut.trans (by repeat (first | (with_reducible first | exact HK.out | apply KeepBut.set_ | apply keep_drewN | apply keep_drew | apply keep_alloc) | exact HK.out)) (KeepBut.of_below hb g none) (.inl rfl)); have n2_ := Aside0.mk (below_step (by repeat (first | (with_reducible first | exact HB.out | apply below_alloc | apply pw_below_drewN | apply below_drew1 | refine below_set ?_ (IsS47.ge HI0.out)) | exact HB.out)) hb); have n3_ := Aside0.mk (hbox); have n4_ := Aside0.mk ((by rw [hg]; exact (keep_size (w := w) (g := g) (row := none) (by repeat (first | (with_reducible first | exact HK.out | apply KeepBut.set_ | apply keep_drewN | apply keep_drew | apply keep_alloc) | exact HK.out))) : w.heap.size ≤ gb158)); have n5_ := Aside0.mk ((Nat.le_trans HW0.out (by rw [hg]; exact (keep_size (w := w) (g := g) (row := none) (by repeat (first | (with_reducible first | exact HK.out | apply KeepBut.set_ | apply keep_drewN | apply keep_drew | apply keep_alloc) | exact HK.out))) : w.heap.size ≤ gb158) : w0.heap.size ≤ gb158)); have n6_ := Aside0.mk ((by rw [hg]; exact Nat.ne_of_lt (IsS47.lt (show IsS47 w0 _ g s0_0 s0_1 from by repeat (first | (with_reducible first | exact HI0.out | apply IsS47.alloc | apply IsS47.drewN | apply IsS47.drew | apply IsS47.set_0 | apply IsS47.set_1) | exact HI0.out))) : g ≠ gb158)); have n7_ := Aside0.mk ((by rw [hg]; exact Nat.ne_of_gt (IsS47.lt (show IsS47 w0 _ g s0_0 s0_1 from by repeat (first | (with_reducible first | exact HI0.out | apply IsS47.alloc | apply IsS47.drewN | apply IsS47.drew | apply IsS47.set_0 | apply IsS47.set_1) | exact HI0.out))) : gb158 ≠ g)); clear HI0; clear HK; clear HB; have HI0 := n0_; have HK := n1_; have HB := n2_; have BK158 := n3_; have GW158 := n4_; have GE158 := n5_; have NB0_158 := n6_; have NB158_0 := n7_; clear n0_ n1_ n2_ n3_ n4_ n5_ n6_ n7_; clear hb hbox hg; have hnb49 := NB158_0.out; have hnc49 := NB0_158.out; have hcz50_0 : w48.cell? ⟨gb158, 0, none⟩ = some (.int .i64 a1_0) := (blk_cell BK158.out 0).trans rfl; have hcz50_1 : w48.cell? ⟨gb158, 1, none⟩ = some (.int .i32 a1_1) := (blk_cell BK158.out 1).trans rfl; have hfz50_0 := blk_frozen BK158.out 0; have hfz50_1 := blk_frozen BK158.out 1; obtain ⟨HGz51, hgz51⟩ := HI0.out; have hcz51_0 := cellS47_0 HGz51; have hcz51_1 := cellS47_1 HGz51; have hfz51_0 := blk_frozen HGz51 0; have hfz51_1 := blk_frozen HGz51 1; clear HGz51 hgz51) | (go_at_call 33; (with_reducible refine (resource_positiveScaleInt64.calls k a1_0 (wrap32 (a1_1 - s0_1)) t165 true _ A40.out).mono ?_); rintro e w' ⟨rfl, ⟨nd, rfl⟩⟩; (try first | exact ⟨rfl, _, World.drewN_drewN _ _ _⟩ | exact ⟨rfl, _, Eq.trans (World.drewN_drewN _ _ _) (congrArg (World.drewN _) (Nat.add_assoc _ _ _))⟩)) | (go_at_call 32; (with_reducible refine (resource_int64Add.calls k s0_0 t165 t167 false _ A42.out).mono ?_); rintro e w' ⟨rfl, ⟨nd, rfl⟩⟩; (try first | exact ⟨rfl, _, World.drewN_drewN _ _ _⟩ | exact ⟨rfl, _, Eq.trans (World.drewN_drewN _ _ _) (congrArg (World.drewN _) (Nat.add_assoc _ _ _))⟩)))
              repeat (go_quiet (first | ((with_reducible refine gate_dst (N := 3) rfl ?_); refine box_event ?hg (N := 3) ?hd (cs := #[.int .i64 a1_0, .int .i32 a1_1]) (t := 47) ?hr ?_; (case hd => rfl); (case hg => rfl); (case hr => first | (go_simp; done) | (go_simp; rfl)); intro gb158 hg w48 hbox hb; have n0_ := Aside0.mk (IsS47.below (by repeat (first | (with_reducible first | exact HI0.out | apply IsS47.alloc | apply IsS47.drewN | apply IsS47.drew | apply IsS47.set_0 | apply IsS47.set_1) | exact HI0.out)) hb); have n1_ := Aside0.mk (KeepBut.trans (by repeat (first | (with_reducible first | exact HK.out | apply KeepBut.set_ | apply keep_drewN | apply keep_drew | apply keep_alloc) | exact HK.out)) (KeepBut.of_below hb g none) (.inl rfl)); have n2_ := Aside0.mk (below_step (by repeat (first | (with_reducible first | exact HB.out | apply below_alloc | apply pw_below_drewN | apply below_drew1 | refine below_set ?_ (IsS47.ge HI0.out)) | exact HB.out)) hb); have n3_ := Aside0.mk (hbox); have n4_ := Aside0.mk ((by rw [hg]; exact (keep_size (w := w) (g := g) (row := none) (by repeat (first | (with_reducible first | exact HK.out | apply KeepBut.set_ | apply keep_drewN | apply keep_drew | apply keep_alloc) | exact HK.out))) : w.heap.size ≤ gb158)); have n5_ := Aside0.mk ((Nat.le_trans HW0.out (by rw [hg]; exact (keep_size (w := w) (g := g) (row := none) (by repeat (first | (with_reducible first | exact HK.out | apply KeepBut.set_ | apply keep_drewN | apply keep_drew | apply keep_alloc) | exact HK.out))) : w.heap.size ≤ gb158) : w0.heap.size ≤ gb158)); have n6_ := Aside0.mk ((by rw [hg]; exact Nat.ne_of_lt (IsS47.lt (show IsS47 w0 _ g s0_0 s0_1 from by repeat (first | (with_reducible first | exact HI0.out | apply IsS47.alloc | apply IsS47.drewN | apply IsS47.drew | apply IsS47.set_0 | apply IsS47.set_1) | exact HI0.out))) : g ≠ gb158)); have n7_ := Aside0.mk ((by rw [hg]; exact Nat.ne_of_gt (IsS47.lt (show IsS47 w0 _ g s0_0 s0_1 from by repeat (first | (with_reducible first | exact HI0.out | apply IsS47.alloc | apply IsS47.drewN | apply IsS47.drew | apply IsS47.set_0 | apply IsS47.set_1) | exact HI0.out))) : gb158 ≠ g)); clear HI0; clear HK; clear HB; have HI0 := n0_; have HK := n1_; have HB := n2_; have BK158 := n3_; have GW158 := n4_; have GE158 := n5_; have NB0_158 := n6_; have NB158_0 := n7_; clear n0_ n1_ n2_ n3_ n4_ n5_ n6_ n7_; clear hb hbox hg; have hnb49 := NB158_0.out; have hnc49 := NB0_158.out; have hcz50_0 : w48.cell? ⟨gb158, 0, none⟩ = some (.int .i64 a1_0) := (blk_cell BK158.out 0).trans rfl; have hcz50_1 : w48.cell? ⟨gb158, 1, none⟩ = some (.int .i32 a1_1) := (blk_cell BK158.out 1).trans rfl; have hfz50_0 := blk_frozen BK158.out 0; have hfz50_1 := blk_frozen BK158.out 1; obtain ⟨HGz51, hgz51⟩ := HI0.out; have hcz51_0 := cellS47_0 HGz51; have hcz51_1 := cellS47_1 HGz51; have hfz51_0 := blk_frozen HGz51 0; have hfz51_1 := blk_frozen HGz51 1; clear HGz51 hgz51) | (go_at_call 33; (with_reducible refine (resource_positiveScaleInt64.calls k a1_0 (wrap32 (a1_1 - s0_1)) t165 true _ A40.out).mono ?_); rintro e w' ⟨rfl, ⟨nd, rfl⟩⟩; (try first | exact ⟨rfl, _, World.drewN_drewN _ _ _⟩ | exact ⟨rfl, _, Eq.trans (World.drewN_drewN _ _ _) (congrArg (World.drewN _) (Nat.add_assoc _ _ _))⟩)) | (go_at_call 32; (with_reducible refine (resource_int64Add.calls k s0_0 t165 t167 false _ A42.out).mono ?_); rintro e w' ⟨rfl, ⟨nd, rfl⟩⟩; (try first | exact ⟨rfl, _, World.drewN_drewN _ _ _⟩ | exact ⟨rfl, _, Eq.trans (World.drewN_drewN _ _ _) (congrArg (World.drewN _) (Nat.add_assoc _ _ _))⟩))); try go_wp2_with (first | ((with_reducible refine gate_dst (N := 3) rfl ?_); refine box_event ?hg (N := 3) ?hd (cs := #[.int .i64 a1_0, .int .i32 a1_1]) (t := 47) ?hr ?_; (case hd => rfl); (case hg => rfl); (case hr => first | (go_simp; done) | (go_simp; rfl)); intro gb158 hg w48 hbox hb; have n0_ := Aside0.mk (IsS47.below (by repeat (first | (with_reducible first | exact HI0.out | apply IsS47.alloc | apply IsS47.drewN | apply IsS47.drew | apply IsS47.set_0 | apply IsS47.set_1) | exact HI0.out)) hb); have n1_ := Aside0.mk (KeepBut.trans (by repeat (first | (with_reducible first | exact HK.out | apply KeepBut.set_ | apply keep_drewN | apply keep_drew | apply keep_alloc) | exact HK.out)) (KeepBut.of_below hb g none) (.inl rfl)); have n2_ := Aside0.mk (below_step (by repeat (first | (with_reducible first | exact HB.out | apply below_alloc | apply pw_below_drewN | apply below_drew1 | refine below_set ?_ (IsS47.ge HI0.out)) | exact HB.out)) hb); have n3_ := Aside0.mk (hbox); have n4_ := Aside0.mk ((by rw [hg]; exact (keep_size (w := w) (g := g) (row := none) (by repeat (first | (with_reducible first | exact HK.out | apply KeepBut.set_ | apply keep_drewN | apply keep_drew | apply keep_alloc) | exact HK.out))) : w.heap.size ≤ gb158)); have n5_ := Aside0.mk ((Nat.le_trans HW0.out (by rw [hg]; exact (keep_size (w := w) (g := g) (row := none) (by repeat (first | (with_reducible first | exact HK.out | apply KeepBut.set_ | apply keep_drewN | apply keep_drew | apply keep_alloc) | exact HK.out))) : w.heap.size ≤ gb158) : w0.heap.size ≤ gb158)); have n6_ := Aside0.mk ((by rw [hg]; exact Nat.ne_of_lt (IsS47.lt (show IsS47 w0 _ g s0_0 s0_1 from by repeat (first | (with_reducible first | exact HI0.out | apply IsS47.alloc | apply IsS47.drewN | apply IsS47.drew | apply IsS47.set_0 | apply IsS47.set_1) | exact HI0.out))) : g ≠ gb158)); have n7_ := Aside0.mk ((by rw [hg]; exact Nat.ne_of_gt (IsS47.lt (show IsS47 w0 _ g s0_0 s0_1 from by repeat (first | (with_reducible first | exact HI0.out | apply IsS47.alloc | apply IsS47.drewN | apply IsS47.drew | apply IsS47.set_0 | apply IsS47.set_1) | exact HI0.out))) : gb158 ≠ g)); clear HI0; clear HK; clear HB; have HI0 := n0_; have HK := n1_; have HB := n2_; have BK158 := n3_; have GW158 := n4_; have GE158 := n5_; have NB0_158 := n6_; have NB158_0 := n7_; clear n0_ n1_ n2_ n3_ n4_ n5_ n6_ n7_; clear hb hbox hg; have hnb49 := NB158_0.out; have hnc49 := NB0_158.out; have hcz50_0 : w48.cell? ⟨gb158, 0, none⟩ = some (.int .i64 a1_0) := (blk_cell BK158.out 0).trans rfl; have hcz50_1 : w48.cell? ⟨gb158, 1, none⟩ = some (.int .i32 a1_1) := (blk_cell BK158.out 1).trans rfl; have hfz50_0 := blk_frozen BK158.out 0; have hfz50_1 := blk_frozen BK158.out 1; obtain ⟨HGz51, hgz51⟩ := HI0.out; have hcz51_0 := cellS47_0 HGz51; have hcz51_1 := cellS47_1 HGz51; have hfz51_0 := blk_frozen HGz51 0; have hfz51_1 := blk_frozen HGz51 1; clear HGz51 hgz51) | (go_at_call 33; (with_reducible refine (resource_positiveScaleInt64.calls k a1_0 (wrap32 (a1_1 - s0_1)) t165 true _ A40.out).mono ?_); rintro e w' ⟨rfl, ⟨nd, rfl⟩⟩; (try first | exact ⟨rfl, _, World.drewN_drewN _ _ _⟩ | exact ⟨rfl, _, Eq.trans (World.drewN_drewN _ _ _) (congrArg (World.drewN _) (Nat.add_assoc _ _ _))⟩)) | (go_at_call 32; (with_reducible refine (resource_int64Add.calls k s0_0 t165 t167 false _ A42.out).mono ?_); rintro e w' ⟨rfl, ⟨nd, rfl⟩⟩; (try first | exact ⟨rfl, _, World.drewN_drewN _ _ _⟩ | exact ⟨rfl, _, Eq.trans (World.drewN_drewN _ _ _) (congrArg (World.drewN _) (Nat.add_assoc _ _ _))⟩))))
              go_ret
              exact ⟨by first | rfl | (simp [errW_none, errW_some] <;> rfl) | (simp [*, errW_none, errW_some] <;> rfl), by repeat (first | (with_reducible first | exact HI0.out | apply IsS47.alloc | apply IsS47.drewN | apply IsS47.drew | apply IsS47.set_0 | apply IsS47.set_1 | refine IsS47.far ?_ NB0_158.out _) | exact HI0.out), by repeat (first | (with_reducible first | exact HB.out | apply below_alloc | apply pw_below_drewN | apply below_drew1 | refine below_set ?_ (IsS47.ge HI0.out) | refine below_set ?_ GE158.out) | exact HB.out), by repeat (first | (with_reducible first | exact HK.out | apply KeepBut.set_ | apply keep_drewN | apply keep_drew | apply keep_alloc | refine keep_far ?_ GW158.out _) | exact HK.out)⟩
          · replace c41 := Bool.eq_false_iff.mpr c41
            subst c41
            have H1 : (some (false, s0_0, s0_1)) = some (r1, r2, r3) := by rw [if_neg (show ¬ (false = true) by decide)] at H; exact H
            clear H
            have H := H1
            clear H1
            simp only [Option.some.injEq, Prod.mk.injEq] at H
            obtain ⟨rfl, rfl, rfl⟩ := H
            go_enter Try.func27, Try.ntmps27
            go_wp2_with (first | ((with_reducible refine gate_dst (N := 3) rfl ?_); refine box_event ?hg (N := 3) ?hd (cs := #[.int .i64 a1_0, .int .i32 a1_1]) (t := 47) ?hr ?_; (case hd => rfl); (case hg => rfl); (case hr => first | (go_simp; done) | (go_simp; rfl)); intro gb158 hg w52 hbox hb; have n0_ := Aside0.mk (IsS47.below (by repeat (first | (with_reducible first | exact HI0.out | apply IsS47.alloc | apply IsS47.drewN | apply IsS47.drew | apply IsS47.set_0 | apply IsS47.set_1) | exact HI0.out)) hb); have n1_ := Aside0.mk (KeepBut.trans (by repeat (first | (with_reducible first | exact HK.out | apply KeepBut.set_ | apply keep_drewN | apply keep_drew | apply keep_alloc) | exact HK.out)) (KeepBut.of_below hb g none) (.inl rfl)); have n2_ := Aside0.mk (below_step (by repeat (first | (with_reducible first | exact HB.out | apply below_alloc | apply pw_below_drewN | apply below_drew1 | refine below_set ?_ (IsS47.ge HI0.out)) | exact HB.out)) hb); have n3_ := Aside0.mk (hbox); have n4_ := Aside0.mk ((by rw [hg]; exact (keep_size (w := w) (g := g) (row := none) (by repeat (first | (with_reducible first | exact HK.out | apply KeepBut.set_ | apply keep_drewN | apply keep_drew | apply keep_alloc) | exact HK.out))) : w.heap.size ≤ gb158)); have n5_ := Aside0.mk ((Nat.le_trans HW0.out (by rw [hg]; exact (keep_size (w := w) (g := g) (row := none) (by repeat (first | (with_reducible first | exact HK.out | apply KeepBut.set_ | apply keep_drewN | apply keep_drew | apply keep_alloc) | exact HK.out))) : w.heap.size ≤ gb158) : w0.heap.size ≤ gb158)); have n6_ := Aside0.mk ((by rw [hg]; exact Nat.ne_of_lt (IsS47.lt (show IsS47 w0 _ g s0_0 s0_1 from by repeat (first | (with_reducible first | exact HI0.out | apply IsS47.alloc | apply IsS47.drewN | apply IsS47.drew | apply IsS47.set_0 | apply IsS47.set_1) | exact HI0.out))) : g ≠ gb158)); have n7_ := Aside0.mk ((by rw [hg]; exact Nat.ne_of_gt (IsS47.lt (show IsS47 w0 _ g s0_0 s0_1 from by repeat (first | (with_reducible first | exact HI0.out | apply IsS47.alloc | apply IsS47.drewN | apply IsS47.drew | apply IsS47.set_0 | apply IsS47.set_1) | exact HI0.out))) : gb158 ≠ g)); clear HI0; clear HK; clear HB; have HI0 := n0_; have HK := n1_; have HB := n2_; have BK158 := n3_; have GW158 := n4_; have GE158 := n5_; have NB0_158 := n6_; have NB158_0 := n7_; clear n0_ n1_ n2_ n3_ n4_ n5_ n6_ n7_; clear hb hbox hg; have hnb53 := NB158_0.out; have hnc53 := NB0_158.out; have hcz54_0 : w52.cell? ⟨gb158, 0, none⟩ = some (.int .i64 a1_0) := (blk_cell BK158.out 0).trans rfl; have hcz54_1 : w52.cell? ⟨gb158, 1, none⟩ = some (.int .i32 a1_1) := (blk_cell BK158.out 1).trans rfl; have hfz54_0 := blk_frozen BK158.out 0; have hfz54_1 := blk_frozen BK158.out 1; obtain ⟨HGz55, hgz55⟩ := HI0.out; have hcz55_0 := cellS47_0 HGz55; have hcz55_1 := cellS47_1 HGz55; have hfz55_0 := blk_frozen HGz55 0; have hfz55_1 := blk_frozen HGz55 1; clear HGz55 hgz55) | (go_at_call 33; (with_reducible refine (resource_positiveScaleInt64.calls k a1_0 (wrap32 (a1_1 - s0_1)) t165 false _ A40.out).mono ?_); rintro e w' ⟨rfl, ⟨nd, rfl⟩⟩; (try first | exact ⟨rfl, _, World.drewN_drewN _ _ _⟩ | exact ⟨rfl, _, Eq.trans (World.drewN_drewN _ _ _) (congrArg (World.drewN _) (Nat.add_assoc _ _ _))⟩)))
            repeat (go_quiet (first | ((with_reducible refine gate_dst (N := 3) rfl ?_); refine box_event ?hg (N := 3) ?hd (cs := #[.int .i64 a1_0, .int .i32 a1_1]) (t := 47) ?hr ?_; (case hd => rfl); (case hg => rfl); (case hr => first | (go_simp; done) | (go_simp; rfl)); intro gb158 hg w52 hbox hb; have n0_ := Aside0.mk (IsS47.below (by repeat (first | (with_reducible first | exact HI0.out | apply IsS47.alloc | apply IsS47.drewN | apply IsS47.drew | apply IsS47.set_0 | apply IsS47.set_1) | exact HI0.out)) hb); have n1_ := Aside0.mk (KeepBut.trans (by repeat (first | (with_reducible first | exact HK.out | apply KeepBut.set_ | apply keep_drewN | apply keep_drew | apply keep_alloc) | exact HK.out)) (KeepBut.of_below hb g none) (.inl rfl)); have n2_ := Aside0.mk (below_step (by repeat (first | (with_reducible first | exact HB.out | apply below_alloc | apply pw_below_drewN | apply below_drew1 | refine below_set ?_ (IsS47.ge HI0.out)) | exact HB.out)) hb); have n3_ := Aside0.mk (hbox); have n4_ := Aside0.mk ((by rw [hg]; exact (keep_size (w := w) (g := g) (row := none) (by repeat (first | (with_reducible first | exact HK.out | apply KeepBut.set_ | apply keep_drewN | apply keep_drew | apply keep_alloc) | exact HK.out))) : w.heap.size ≤ gb158)); have n5_ := Aside0.mk ((Nat.le_trans HW0.out (by rw [hg]; exact (keep_size (w := w) (g := g) (row := none) (by repeat (first | (with_reducible first | exact HK.out | apply KeepBut.set_ | apply keep_drewN | apply keep_drew | apply keep_alloc) | exact HK.out))) : w.heap.size ≤ gb158) : w0.heap.size ≤ gb158)); have n6_ := Aside0.mk ((by rw [hg]; exact Nat.ne_of_lt (IsS47.lt (show IsS47 w0 _ g s0_0 s0_1 from by repeat (first | (with_reducible first | exact HI0.out | apply IsS47.alloc | apply IsS47.drewN | apply IsS47.drew | apply IsS47.set_0 | apply IsS47.set_1) | exact HI0.out))) : g ≠ gb158)); have n7_ := Aside0.mk ((by rw [hg]; exact Nat.ne_of_gt (IsS47.lt (show IsS47 w0 _ g s0_0 s0_1 from by repeat (first | (with_reducible first | exact HI0.out | apply IsS47.alloc | apply IsS47.drewN | apply IsS47.drew | apply IsS47.set_0 | apply IsS47.set_1) | exact HI0.out))) : gb158 ≠ g)); clear HI0; clear HK; clear HB; have HI0 := n0_; have HK := n1_; have HB := n2_; have BK158 := n3_; have GW158 := n4_; have GE158 := n5_; have NB0_158 := n6_; have NB158_0 := n7_; clear n0_ n1_ n2_ n3_ n4_ n5_ n6_ n7_; clear hb hbox hg; have hnb53 := NB158_0.out; have hnc53 := NB0_158.out; have hcz54_0 : w52.cell? ⟨gb158, 0, none⟩ = some (.int .i64 a1_0) := (blk_cell BK158.out 0).trans rfl; have hcz54_1 : w52.cell? ⟨gb158, 1, none⟩ = some (.int .i32 a1_1) := (blk_cell BK158.out 1).trans rfl; have hfz54_0 := blk_frozen BK158.out 0; have hfz54_1 := blk_frozen BK158.out 1; obtain ⟨HGz55, hgz55⟩ := HI0.out; have hcz55_0 := cellS47_0 HGz55; have hcz55_1 := cellS47_1 HGz55; have hfz55_0 := blk_frozen HGz55 0; have hfz55_1 := blk_frozen HGz55 1; clear HGz55 hgz55) | (go_at_call 33; (with_reducible refine (resource_positiveScaleInt64.calls k a1_0 (wrap32 (a1_1 - s0_1)) t165 false _ A40.out).mono ?_); rintro e w' ⟨rfl, ⟨nd, rfl⟩⟩; (try first | exact ⟨rfl, _, World.drewN_drewN _ _ _⟩ | exact ⟨rfl, _, Eq.trans (World.drewN_drewN _ _ _) (congrArg (World.drewN _) (Nat.add_assoc _ _ _))⟩))); try go_wp2_with (first | ((with_reducible refine gate_dst (N := 3) rfl ?_); refine box_event ?hg (N := 3) ?hd (cs := #[.int .i64 a1_0, .int .i32 a1_1]) (t := 47) ?hr ?_; (case hd => rfl); (case hg => rfl); (case hr => first | (go_simp; done) | (go_simp; rfl)); intro gb158 hg w52 hbox hb; have n0_ := Aside0.mk (IsS47.below (by repeat (first | (with_reducible first | exact HI0.out | apply IsS47.alloc | apply IsS47.drewN | apply IsS47.drew | apply IsS47.set_0 | apply IsS47.set_1) | exact HI0.out)) hb); have n1_ := Aside0.mk (KeepBut.trans (by repeat (first | (with_reducible first | exact HK.out | apply KeepBut.set_ | apply keep_drewN | apply keep_drew | apply keep_alloc) | exact HK.out)) (KeepBut.of_below hb g none) (.inl rfl)); have n2_ := Aside0.mk (below_step (by repeat (first | (with_reducible first | exact HB.out | apply below_alloc | apply pw_below_drewN | apply below_drew1 | refine below_set ?_ (IsS47.ge HI0.out)) | exact HB.out)) hb); have n3_ := Aside0.mk (hbox); have n4_ := Aside0.mk ((by rw [hg]; exact (keep_size (w := w) (g := g) (row := none) (by repeat (first | (with_reducible first | exact HK.out | apply KeepBut.set_ | apply keep_drewN | apply keep_drew | apply keep_alloc) | exact HK.out))) : w.heap.size ≤ gb158)); have n5_ := Aside0.mk ((Nat.le_trans HW0.out (by rw [hg]; exact (keep_size (w := w) (g := g) (row := none) (by repeat (first | (with_reducible first | exact HK.out | apply KeepBut.set_ | apply keep_drewN | apply keep_drew | apply keep_alloc) | exact HK.out))) : w.heap.size ≤ gb158) : w0.heap.size ≤ gb158)); have n6_ := Aside0.mk ((by rw [hg]; exact Nat.ne_of_lt (IsS47.lt (show IsS47 w0 _ g s0_0 s0_1 from by repeat (first | (with_reducible first | exact HI0.out | apply IsS47.alloc | apply IsS47.drewN | apply IsS47.drew | apply IsS47.set_0 | apply IsS47.set_1) | exact HI0.out))) : g ≠ gb158)); have n7_ := Aside0.mk ((by rw [hg]; exact Nat.ne_of_gt (IsS47.lt (show IsS47 w0 _ g s0_0 s0_1 from by repeat (first | (with_reducible first | exact HI0.out | apply IsS47.alloc | apply IsS47.drewN | apply IsS47.drew | apply IsS47.set_0 | apply IsS47.set_1) | exact HI0.out))) : gb158 ≠ g)); clear HI0; clear HK; clear HB; have HI0 := n0_; have HK := n1_; have HB := n2_; have BK158 := n3_; have GW158 := n4_; have GE158 := n5_; have NB0_158 := n6_; have NB158_0 := n7_; clear n0_ n1_ n2_ n3_ n4_ n5_ n6_ n7_; clear hb hbox hg; have hnb53 := NB158_0.out; have hnc53 := NB0_158.out; have hcz54_0 : w52.cell? ⟨gb158, 0, none⟩ = some (.int .i64 a1_0) := (blk_cell BK158.out 0).trans rfl; have hcz54_1 : w52.cell? ⟨gb158, 1, none⟩ = some (.int .i32 a1_1) := (blk_cell BK158.out 1).trans rfl; have hfz54_0 := blk_frozen BK158.out 0; have hfz54_1 := blk_frozen BK158.out 1; obtain ⟨HGz55, hgz55⟩ := HI0.out; have hcz55_0 := cellS47_0 HGz55; have hcz55_1 := cellS47_1 HGz55; have hfz55_0 := blk_frozen HGz55 0; have hfz55_1 := blk_frozen HGz55 1; clear HGz55 hgz55) | (go_at_call 33; (with_reducible refine (resource_positiveScaleInt64.calls k a1_0 (wrap32 (a1_1 - s0_1)) t165 false _ A40.out).mono ?_); rintro e w' ⟨rfl, ⟨nd, rfl⟩⟩; (try first | exact ⟨rfl, _, World.drewN_drewN _ _ _⟩ | exact ⟨rfl, _, Eq.trans (World.drewN_drewN _ _ _) (congrArg (World.drewN _) (Nat.add_assoc _ _ _))⟩))))
            go_ret
            exact ⟨by first | rfl | (simp [errW_none, errW_some] <;> rfl) | (simp [*, errW_none, errW_some] <;> rfl), by repeat (first | (with_reducible first | exact HI0.out | apply IsS47.alloc | apply IsS47.drewN | apply IsS47.drew | apply IsS47.set_0 | apply IsS47.set_1 | refine IsS47.far ?_ NB0_158.out _) | exact HI0.out), by repeat (first | (with_reducible first | exact HB.out | apply below_alloc | apply pw_below_drewN | apply below_drew1 | refine below_set ?_ (IsS47.ge HI0.out) | refine below_set ?_ GE158.out) | exact HB.out), by repeat (first | (with_reducible first | exact HK.out | apply KeepBut.set_ | apply keep_drewN | apply keep_drew | apply keep_alloc | refine keep_far ?_ GW158.out _) | exact HK.out)⟩

/-! ### resource_int64Amount_Sub: function 21 -/
def resource_int64Amount_Sub.f (k : Nat) (s0_0 : Int) (s0_1 : Int) (a1_0 : Int) (a1_1 : Int) : Option (Bool × Int × Int) := (resource_int64Amount_Add.f k s0_0 s0_1 (wrap64 (-a1_0)) a1_1).bind fun bt170 => (some (bt170.1, bt170.2.1, bt170.2.2))
theorem resource_int64Amount_Sub.mono : ∀ a0 a1 a2 a3 k, LeO (resource_int64Amount_Sub.f k a0 a1 a2 a3) (resource_int64Amount_Sub.f (k + 1) a0 a1 a2 a3) := by
  intro a0 a1 a2 a3 k
  unfold resource_int64Amount_Sub.f
  repeat' first
      | (with_reducible exact resource_int64Amount_Add.mono _ _ _ _ _)
      | (with_reducible exact LeO.refl _)
      | (with_reducible exact LeO.none _)
      | (with_reducible refine LeO.ite ?_ ?_)
      | (with_reducible refine LeO.bind ?_ (fun _ => ?_))
      | exact resource_int64Amount_Add.mono _ _ _ _ _
      | exact LeO.none _
      | refine LeO.ite ?_ ?_
      | refine LeO.bind ?_ (fun _ => ?_)
set_option maxHeartbeats 8000000 in
set_option maxRecDepth 100000 in
theorem resource_int64Amount_Sub.calls (k : Nat) (g : Nat) (s0_0 : Int) (s0_1 : Int) (a1_0 : Int) (a1_1 : Int) (r1 : Bool) (r2 : Int) (r3 : Int) (w0 w : World) (hI : IsS47 w0 w g s0_0 s0_1) (hB : Below w0.heap.size w0 w) (h : resource_int64Amount_Sub.f k s0_0 s0_1 a1_0 a1_1 = some (r1, r2, r3)) :
    Calls Try.prog 21 #[.pointer (some ⟨g, 0, none⟩), .agg #[.int .i64 a1_0, .int .i32 a1_1]] w fun e w' => e = .returned (.bool r1) ∧ IsS47 w0 w' g r2 r3 ∧ Below w0.heap.size w0 w' ∧ KeepBut w w' g none := by
  have hu47 := Try.underlying47
  have HI0 := Aside0.mk hI
  have HK := Aside0.mk (KeepBut.refl w g none)
  have HL := Aside0.mk hB.size
  clear hI
  have HW0 := Aside0.mk hB.size
  have HB := Aside0.mk hB
  clear hB
  have H : ((resource_int64Amount_Add.f k s0_0 s0_1 (wrap64 (-a1_0)) a1_1).bind fun bt170 => (some (bt170.1, bt170.2.1, bt170.2.2))) = some (r1, r2, r3) := h
  clear h
  replace H := Option.bind_eq_some_iff.mp H
  obtain ⟨⟨t170, t171, t172⟩, A30, H⟩ := H
  replace H : (some (t170, t171, t172)) = some (r1, r2, r3) := H
  have A3 := Aside0.mk A30
  clear A30
  simp only [Option.some.injEq, Prod.mk.injEq] at H
  obtain ⟨rfl, rfl, rfl⟩ := H
  go_enter Try.func21, Try.ntmps21
  go_wp2_with (first | ((with_reducible refine gate_dst (N := 3) rfl ?_); refine box_event ?hg (N := 3) ?hd (cs := #[.int .i64 a1_0, .int .i32 a1_1]) (t := 47) ?hr ?_; (case hd => rfl); (case hg => rfl); (case hr => first | (go_simp; done) | (go_simp; rfl)); intro gb169 hg w4 hbox hb; have n0_ := Aside0.mk (IsS47.below (by repeat (first | (with_reducible first | exact HI0.out | apply IsS47.alloc | apply IsS47.drewN | apply IsS47.drew | apply IsS47.set_0 | apply IsS47.set_1) | exact HI0.out)) hb); have n1_ := Aside0.mk (KeepBut.trans (by repeat (first | (with_reducible first | exact HK.out | apply KeepBut.set_ | apply keep_drewN | apply keep_drew | apply keep_alloc) | exact HK.out)) (KeepBut.of_below hb g none) (.inl rfl)); have n2_ := Aside0.mk (below_step (by repeat (first | (with_reducible first | exact HB.out | apply below_alloc | apply pw_below_drewN | apply below_drew1 | refine below_set ?_ (IsS47.ge HI0.out)) | exact HB.out)) hb); have n3_ := Aside0.mk (hbox); have n4_ := Aside0.mk ((by rw [hg]; exact (keep_size (w := w) (g := g) (row := none) (by repeat (first | (with_reducible first | exact HK.out | apply KeepBut.set_ | apply keep_drewN | apply keep_drew | apply keep_alloc) | exact HK.out))) : w.heap.size ≤ gb169)); have n5_ := Aside0.mk ((Nat.le_trans HW0.out (by rw [hg]; exact (keep_size (w := w) (g := g) (row := none) (by repeat (first | (with_reducible first | exact HK.out | apply KeepBut.set_ | apply keep_drewN | apply keep_drew | apply keep_alloc) | exact HK.out))) : w.heap.size ≤ gb169) : w0.heap.size ≤ gb169)); have n6_ := Aside0.mk ((by rw [hg]; exact Nat.ne_of_lt (IsS47.lt (show IsS47 w0 _ g s0_0 s0_1 from by repeat (first | (with_reducible first | exact HI0.out | apply IsS47.alloc | apply IsS47.drewN | apply IsS47.drew | apply IsS47.set_0 | apply IsS47.set_1) | exact HI0.out))) : g ≠ gb169)); have n7_ := Aside0.mk ((by rw [hg]; exact Nat.ne_of_gt (IsS47.lt (show IsS47 w0 _ g s0_0 s0_1 from by repeat (first | (with_reducible first | exact HI0.out | apply IsS47.alloc | apply IsS47.drewN | apply IsS47.drew | apply IsS47.set_0 | apply IsS47.set_1) | exact HI0.out))) : gb169 ≠ g)); clear HI0; clear HK; clear HB; have HI0 := n0_; have HK := n1_; have HB := n2_; have BK169 := n3_; have GW169 := n4_; have GE169 := n5_; have NB0_169 := n6_; have NB169_0 := n7_; clear n0_ n1_ n2_ n3_ n4_ n5_ n6_ n7_; clear hb hbox hg; have hnb5 := NB169_0.out; have hnc5 := NB0_169.out; have hcz6_0 : w4.cell? ⟨gb169, 0, none⟩ = some (.int .i64 a1_0) := (blk_cell BK169.out 0).trans rfl; have hcz6_1 : w4.cell? ⟨gb169, 1, none⟩ = some (.int .i32 a1_1) := (blk_cell BK169.out 1).trans rfl; have hfz6_0 := blk_frozen BK169.out 0; have hfz6_1 := blk_frozen BK169.out 1) | ((with_reducible refine gate_callee (f := 27) rfl ?_); refine goesL_ (some 12) rfl rfl Try.func27 (by kernel_rfl) rfl #[.pointer (some ⟨g, 0, none⟩), .agg #[.int .i64 (wrap64 (-a1_0)), .int .i32 a1_1]] rfl (by (try simp only [List.map_toArray, List.map_cons, List.map_nil]); first | done | rfl | (simp only [List.length_drop, List.length_take]; rfl)) ?_; (with_reducible refine (resource_int64Amount_Add.calls k g s0_0 s0_1 (wrap64 (-a1_0)) a1_1 t170 t171 t172 w0 _ ?side1 ?side2 A3.out).mono ?_); (case side1 => repeat (first | (with_reducible first | exact HI0.out | apply IsS47.alloc | apply IsS47.drewN | apply IsS47.drew | apply IsS47.set_0 | apply IsS47.set_1 | refine IsS47.far ?_ NB0_169.out _) | exact HI0.out)); (case side2 => repeat (first | (with_reducible first | exact HB.out | apply below_alloc | apply pw_below_drewN | apply below_drew1 | refine below_set ?_ (IsS47.ge HI0.out) | refine below_set ?_ GE169.out) | exact HB.out)); rintro e w7 ⟨rfl, hi, hb, hk⟩; refine ⟨_, rfl, ?_⟩; have n0_ := Aside0.mk (KeepBut.blk hk (g' := gb169) (o := .cells #[.int .i64 a1_0, .int .i32 a1_1] 47 (0, 0)) (by (with_reducible repeat (first | refine blk_drewN ?_ _ | refine blk_drew ?_ | refine blk_alloc ?_ _)); exact BK169.out) NB169_0.out (by simp)); have n1_ := Aside0.mk (KeepBut.trans (by repeat (first | (with_reducible first | exact HK.out | apply KeepBut.set_ | apply keep_drewN | apply keep_drew | apply keep_alloc | refine keep_far ?_ GW169.out _) | exact HK.out)) hk (.inl rfl)); have n2_ := Aside0.mk (hb); have n3_ := Aside0.mk (hi); clear BK169; clear HK; clear HB; clear HI0; have BK169 := n0_; have HK := n1_; have HB := n2_; have HI0 := n3_; clear n0_ n1_ n2_ n3_; (try clear hb); (try clear hb2); (try clear hk); (try clear hi)))
  go_ret
  exact ⟨by first | rfl | (simp [errW_none, errW_some] <;> rfl) | (simp [*, errW_none, errW_some] <;> rfl), by repeat (first | (with_reducible first | exact HI0.out | apply IsS47.alloc | apply IsS47.drewN | apply IsS47.drew | apply IsS47.set_0 | apply IsS47.set_1 | refine IsS47.far ?_ NB0_169.out _) | exact HI0.out), by repeat (first | (with_reducible first | exact HB.out | apply below_alloc | apply pw_below_drewN | apply below_drew1 | refine below_set ?_ (IsS47.ge HI0.out) | refine below_set ?_ GE169.out) | exact HB.out), by repeat (first | (with_reducible first | exact HK.out | apply KeepBut.set_ | apply keep_drewN | apply keep_drew | apply keep_alloc | refine keep_far ?_ GW169.out _) | exact HK.out)⟩

/-! ### resource_int64Amount_ZzParts: function 22 -/
def resource_int64Amount_ZzParts.f (a0_0 : Int) (a0_1 : Int) : Option (Int × Int) := some (a0_0, a0_1)
set_option maxHeartbeats 8000000 in
set_option maxRecDepth 100000 in
theorem resource_int64Amount_ZzParts.calls (a0_0 : Int) (a0_1 : Int) (r1 : Int) (r2 : Int) (w : World) (h : resource_int64Amount_ZzParts.f a0_0 a0_1 = some (r1, r2)) :
    Calls Try.prog 22 #[.agg #[.int .i64 a0_0, .int .i32 a0_1]] w fun e w' => e = .returned (.tuple #[.int .i64 r1, .int .i32 r2]) ∧ Below w.heap.size w w' := by
  have hu47 := Try.underlying47
  have HB := Aside0.mk (Below.refl w.heap.size w)
  have H : (some (a0_0, a0_1)) = some (r1, r2) := h
  clear h
  simp only [Option.some.injEq, Prod.mk.injEq] at H
  obtain ⟨rfl, rfl⟩ := H
  go_enter Try.func22, Try.ntmps22
  go_wp2_with (first | ((with_reducible refine gate_dst (N := 1) rfl ?_); refine box_event ?hg (N := 1) ?hd (cs := #[.int .i64 a0_0, .int .i32 a0_1]) (t := 47) ?hr ?_; (case hd => rfl); (case hg => rfl); (case hr => first | (go_simp; done) | (go_simp; rfl)); intro gb173 hg w2 hbox hb; have n0_ := Aside0.mk (below_step (by repeat (first | (with_reducible first | exact HB.out | apply below_alloc | apply pw_below_drewN | apply below_drew1) | exact HB.out)) hb); have n1_ := Aside0.mk (hbox); have n2_ := Aside0.mk ((by rw [hg]; exact (below_size (by repeat (first | (with_reducible first | exact HB.out | apply below_alloc | apply pw_below_drewN | apply below_drew1) | exact HB.out))) : w.heap.size ≤ gb173)); have n3_ := Aside0.mk ((by rw [hg]; exact (below_size (by repeat (first | (with_reducible first | exact HB.out | apply below_alloc | apply pw_below_drewN | apply below_drew1) | exact HB.out))) : w.heap.size ≤ gb173)); clear HB; have HB := n0_; have BK173 := n1_; have GW173 := n2_; have GE173 := n3_; clear n0_ n1_ n2_ n3_; clear hb hbox hg; have hcz3_0 : w2.cell? ⟨gb173, 0, none⟩ = some (.int .i64 a0_0) := (blk_cell BK173.out 0).trans rfl; have hcz3_1 : w2.cell? ⟨gb173, 1, none⟩ = some (.int .i32 a0_1) := (blk_cell BK173.out 1).trans rfl; have hfz3_0 := blk_frozen BK173.out 0; have hfz3_1 := blk_frozen BK173.out 1))
  repeat (go_quiet (first | ((with_reducible refine gate_dst (N := 1) rfl ?_); refine box_event ?hg (N := 1) ?hd (cs := #[.int .i64 a0_0, .int .i32 a0_1]) (t := 47) ?hr ?_; (case hd => rfl); (case hg => rfl); (case hr => first | (go_simp; done) | (go_simp; rfl)); intro gb173 hg w2 hbox hb; have n0_ := Aside0.mk (below_step (by repeat (first | (with_reducible first | exact HB.out | apply below_alloc | apply pw_below_drewN | apply below_drew1) | exact HB.out)) hb); have n1_ := Aside0.mk (hbox); have n2_ := Aside0.mk ((by rw [hg]; exact (below_size (by repeat (first | (with_reducible first | exact HB.out | apply below_alloc | apply pw_below_drewN | apply below_drew1) | exact HB.out))) : w.heap.size ≤ gb173)); have n3_ := Aside0.mk ((by rw [hg]; exact (below_size (by repeat (first | (with_reducible first | exact HB.out | apply below_alloc | apply pw_below_drewN | apply below_drew1) | exact HB.out))) : w.heap.size ≤ gb173)); clear HB; have HB := n0_; have BK173 := n1_; have GW173 := n2_; have GE173 := n3_; clear n0_ n1_ n2_ n3_; clear hb hbox hg; have hcz3_0 : w2.cell? ⟨gb173, 0, none⟩ = some (.int .i64 a0_0) := (blk_cell BK173.out 0).trans rfl; have hcz3_1 : w2.cell? ⟨gb173, 1, none⟩ = some (.int .i32 a0_1) := (blk_cell BK173.out 1).trans rfl; have hfz3_0 := blk_frozen BK173.out 0; have hfz3_1 := blk_frozen BK173.out 1)); try go_wp2_with (first | ((with_reducible refine gate_dst (N := 1) rfl ?_); refine box_event ?hg (N := 1) ?hd (cs := #[.int .i64 a0_0, .int .i32 a0_1]) (t := 47) ?hr ?_; (case hd => rfl); (case hg => rfl); (case hr => first | (go_simp; done) | (go_simp; rfl)); intro gb173 hg w2 hbox hb; have n0_ := Aside0.mk (below_step (by repeat (first | (with_reducible first | exact HB.out | apply below_alloc | apply pw_below_drewN | apply below_drew1) | exact HB.out)) hb); have n1_ := Aside0.mk (hbox); have n2_ := Aside0.mk ((by rw [hg]; exact (below_size (by repeat (first | (with_reducible first | exact HB.out | apply below_alloc | apply pw_below_drewN | apply below_drew1) | exact HB.out))) : w.heap.size ≤ gb173)); have n3_ := Aside0.mk ((by rw [hg]; exact (below_size (by repeat (first | (with_reducible first | exact HB.out | apply below_alloc | apply pw_below_drewN | apply below_drew1) | exact HB.out))) : w.heap.size ≤ gb173)); clear HB; have HB := n0_; have BK173 := n1_; have GW173 := n2_; have GE173 := n3_; clear n0_ n1_ n2_ n3_; clear hb hbox hg; have hcz3_0 : w2.cell? ⟨gb173, 0, none⟩ = some (.int .i64 a0_0) := (blk_cell BK173.out 0).trans rfl; have hcz3_1 : w2.cell? ⟨gb173, 1, none⟩ = some (.int .i32 a0_1) := (blk_cell BK173.out 1).trans rfl; have hfz3_0 := blk_frozen BK173.out 0; have hfz3_1 := blk_frozen BK173.out 1)))
  go_ret2
  exact ⟨by first | rfl | (simp [errW_none, errW_some] <;> rfl) | (simp [*, errW_none, errW_some] <;> rfl), by repeat (first | (with_reducible first | exact HB.out | apply below_alloc | apply pw_below_drewN | apply below_drew1 | refine below_set ?_ GE173.out) | exact HB.out)⟩

end Go.Proofs.Ytmkpkpkcoieeiaa.XFnAmountSub
