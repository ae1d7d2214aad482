-- PRINTED BY print.sh 35421559b90ae4d0a3588c463048766b98c2df88dd9212a6774a882060cdf62d: not written by this session
import Derived.Test.YtpchihkegmihiaaPFnScaleTensx0
namespace Go.Proofs.Ytpchihkegmihiaa.PFnScaleTens
open Go.RowKit Go.Proofs.YtpchihkegmihiaaW.PrintWords Go.Proofs.YtpchihkegmihiaaW.PrintLast Go.Proofs.YtpchihkegmihiaaW.PrintMore
attribute [local go_sem] max2_int min2_int max_two min_two max_three min_three max_four min_four   -- for this text's walks alone
set_option linter.unusedVariables false
set_option linter.unusedSimpArgs false

/-! ### resource_int64MultiplyScale10: function 52 -/
def resource_int64MultiplyScale10.j0 : Nat → Int → Bool → Option (Int × Bool)
  | 0, _, _ => none
  | k + 1, x0, x10 => if x10 = true then (some (wrap64 (x0 * 10), true)) else (if x0 = (-9223372036854775808) then (some (0, false)) else (some (wrap64 (x0 * 10), ((wrap64 (Int.tdiv (wrap64 (x0 * 10)) 10)) == x0))))
def resource_int64MultiplyScale10.f (k : Nat) (a0 : Int) : Option (Int × Bool) := if a0 = 0 then (resource_int64MultiplyScale10.j0 k a0 true) else (resource_int64MultiplyScale10.j0 k a0 (a0 == 1))
theorem resource_int64MultiplyScale10.mono_l : ∀ k, (∀ y0 y1, LeO (resource_int64MultiplyScale10.j0 k y0 y1) (resource_int64MultiplyScale10.j0 (k + 1) y0 y1))
  | 0 => fun _ _ r h => by simp [resource_int64MultiplyScale10.j0] at h
  | k + 1 => by
    have ih0 := resource_int64MultiplyScale10.mono_l k
    · intro y0 y1
      unfold resource_int64MultiplyScale10.j0
      repeat' first
      | (with_reducible exact ih0 _ _)
      | (with_reducible exact LeO.refl _)
      | (with_reducible exact LeO.none _)
      | (with_reducible refine LeO.ite ?_ ?_)
      | (with_reducible refine LeO.bind ?_ (fun _ => ?_))
      | exact ih0 _ _
      | exact LeO.none _
      | refine LeO.ite ?_ ?_
      | refine LeO.bind ?_ (fun _ => ?_)
theorem resource_int64MultiplyScale10.mono : ∀ a0 k, LeO (resource_int64MultiplyScale10.f k a0) (resource_int64MultiplyScale10.f (k + 1) a0) := by
  intro a0 k
  have ih0 := resource_int64MultiplyScale10.mono_l k
  unfold resource_int64MultiplyScale10.f
  repeat' first
      | (with_reducible exact ih0 _ _)
      | (with_reducible exact LeO.refl _)
      | (with_reducible exact LeO.none _)
      | (with_reducible refine LeO.ite ?_ ?_)
      | (with_reducible refine LeO.bind ?_ (fun _ => ?_))
      | exact ih0 _ _
      | exact LeO.none _
      | refine LeO.ite ?_ ?_
      | refine LeO.bind ?_ (fun _ => ?_)
set_option maxHeartbeats 8000000 in
set_option maxRecDepth 100000 in
theorem resource_int64MultiplyScale10.calls (k : Nat) (a0 : Int) (r1 : Int) (r2 : Bool) (w : World) (h : resource_int64MultiplyScale10.f k a0 = some (r1, r2)) :
    Calls Try.prog 52 #[.int .i64 a0] w fun e w' => e = .returned (.tuple #[.int .i64 r1, .bool r2]) ∧ Drawn0 w w' := by
  have H : (if a0 = 0 then (resource_int64MultiplyScale10.j0 k a0 true) else (resource_int64MultiplyScale10.j0 k a0 (a0 == 1))) = some (r1, r2) := h
  clear h
  have HC2 := Aside0.mk H
  clear H
  go_enter Try.func52, Try.ntmps52
  go_upto_region 1 with (fail)
  go_cut [10] (fun v10 wc => ∃ (kq : Nat) (x10_1 : Bool), v10 = .bool x10_1 ∧ Aside0 (resource_int64MultiplyScale10.j0 kq a0 x10_1 = some (r1, r2)) ∧ Aside0 (kq ≤ k) ∧ Drawn0 w wc)
  case first =>
    have H := HC2.out
    clear HC2
    by_cases c3 : a0 = 0
    · rw [if_pos c3] at H
      have c3b0 : (a0 == 0) = true := beq_iff_eq.mpr c3
      have c3b1 : (a0 != 0) = false := bne_eq_false_iff_eq.mpr c3
      clear c3
      (first | rw [c3b0] | (simp only [i64_w, i32_w]; rw [c3b0]) | skip)
      have H' := Aside0.mk H
      clear H
      go_wp2
      go_meet
      case rel => exact ⟨_, (true), (by first | rfl | (simp; done) | (simp [*]; done)), H', ⟨by first | omega | exact Nat.le_refl _⟩, by repeat (first | exact Drawn0.refl _ | apply Drawn0.step)⟩
    · rw [if_neg c3] at H
      have c3b0 : (a0 == 0) = false := beq_eq_false_iff_ne.mpr c3
      have c3b1 : (a0 != 0) = true := bne_iff_ne.mpr c3
      (first | rw [c3b0] | (simp only [i64_w, i32_w]; rw [c3b0]) | skip)
      have H' := Aside0.mk H
      clear H
      go_wp2
      go_meet
      case rel => exact ⟨_, ((a0 == 1)), (by first | rfl | (simp; done) | (simp [*]; done)), H', ⟨by first | omega | exact Nat.le_refl _⟩, by repeat (first | exact Drawn0.refl _ | apply Drawn0.step)⟩
  case rest =>
    clear HC2
    try clear p2
    try clear c3
    try clear c3b0
    try clear c3b1
    obtain ⟨kq, x10_1, rfl, HA, HJ1, ⟨mc1, rfl⟩⟩ := hcut
    cases kq with
    | zero => exact absurd HA.out (by simp [resource_int64MultiplyScale10.j0])
    | succ kj1 =>
      have H := HA.out
      clear HA
      simp only [resource_int64MultiplyScale10.j0] at H
      by_cases c4 : x10_1 = true
      · subst c4
        have H1 : (some (wrap64 (a0 * 10), true)) = some (r1, r2) := by rw [if_pos rfl] at H; exact H
        clear H
        have H := H1
        clear H1
        simp only [Option.some.injEq, Prod.mk.injEq] at H
        obtain ⟨rfl, rfl⟩ := H
        go_wp2
        go_ret2
        exact ⟨by first | rfl | (simp; done) | (simp [*]; done), by repeat (first | exact Drawn0.refl _ | apply Drawn0.step)⟩
      · replace c4 := Bool.eq_false_iff.mpr c4
        subst c4
        have H1 : (if a0 = (-9223372036854775808) then (some (0, false)) else (some (wrap64 (a0 * 10), ((wrap64 (Int.tdiv (wrap64 (a0 * 10)) 10)) == a0)))) = some (r1, r2) := by rw [if_neg (show ¬ (false = true) by decide)] at H; exact H
        clear H
        have H := H1
        clear H1
        by_cases c5 : a0 = (-9223372036854775808)
        · rw [if_pos c5] at H
          have c5b0 : (a0 == (-9223372036854775808)) = true := beq_iff_eq.mpr c5
          have c5b1 : (a0 != (-9223372036854775808)) = false := bne_eq_false_iff_eq.mpr c5
          clear c5
          simp only [Option.some.injEq, Prod.mk.injEq] at H
          obtain ⟨rfl, rfl⟩ := H
          go_wp2
          go_ret2
          exact ⟨by first | rfl | (simp; done) | (simp [*]; done), by repeat (first | exact Drawn0.refl _ | apply Drawn0.step)⟩
        · rw [if_neg c5] at H
          have c5b0 : (a0 == (-9223372036854775808)) = false := beq_eq_false_iff_ne.mpr c5
          have c5b1 : (a0 != (-9223372036854775808)) = true := bne_iff_ne.mpr c5
          simp only [Option.some.injEq, Prod.mk.injEq] at H
          obtain ⟨rfl, rfl⟩ := H
          go_wp2
          go_ret2
          exact ⟨by first | rfl | (simp; done) | (simp [*]; done), by repeat (first | exact Drawn0.refl _ | apply Drawn0.step)⟩

/-! ### resource_ZzMultiplyScale10: function 36 -/
def resource_ZzMultiplyScale10.f (k : Nat) (a0 : Int) : Option (Int × Bool) := (resource_int64MultiplyScale10.f k a0).bind fun bt176 => (some (bt176.1, bt176.2))
theorem resource_ZzMultiplyScale10.mono : ∀ a0 k, LeO (resource_ZzMultiplyScale10.f k a0) (resource_ZzMultiplyScale10.f (k + 1) a0) := by
  intro a0 k
  unfold resource_ZzMultiplyScale10.f
  repeat' first
      | (with_reducible exact resource_int64MultiplyScale10.mono _ _)
      | (with_reducible exact LeO.refl _)
      | (with_reducible exact LeO.none _)
      | (with_reducible refine LeO.ite ?_ ?_)
      | (with_reducible refine LeO.bind ?_ (fun _ => ?_))
      | exact resource_int64MultiplyScale10.mono _ _
      | exact LeO.none _
      | refine LeO.ite ?_ ?_
      | refine LeO.bind ?_ (fun _ => ?_)
set_option maxHeartbeats 8000000 in
set_option maxRecDepth 100000 in
theorem resource_ZzMultiplyScale10.calls (k : Nat) (a0 : Int) (r1 : Int) (r2 : Bool) (w : World) (h : resource_ZzMultiplyScale10.f k a0 = some (r1, r2)) :
    Calls Try.prog 36 #[.int .i64 a0] w fun e w' => e = .returned (.tuple #[.int .i64 r1, .bool r2]) ∧ Drawn0 w w' := by
  have H : ((resource_int64MultiplyScale10.f k a0).bind fun bt176 => (some (bt176.1, bt176.2))) = some (r1, r2) := h
  clear h
  replace H := Option.bind_eq_some_iff.mp H
  obtain ⟨⟨t176, t177⟩, A20, H⟩ := H
  replace H : (some (t176, t177)) = some (r1, r2) := H
  have A2 := Aside0.mk A20
  clear A20
  simp only [Option.some.injEq, Prod.mk.injEq] at H
  obtain ⟨rfl, rfl⟩ := H
  go_enter Try.func36, Try.ntmps36
  go_wp2_with (first | ((with_reducible refine gate_callee (f := 52) rfl ?_); refine goesL_ (some 5) rfl rfl Try.func52 (by kernel_rfl) rfl #[.int .i64 a0] rfl (by (try simp only [List.map_toArray, List.map_cons, List.map_nil]); first | done | rfl | (simp only [List.length_drop, List.length_take]; rfl)) ?_; (with_reducible refine (resource_int64MultiplyScale10.calls k a0 t176 t177 _ A2.out).mono ?_); rintro e w' ⟨rfl, ⟨nd, rfl⟩⟩; refine ⟨_, rfl, ?_⟩))
  go_ret2
  exact ⟨by first | rfl | (simp; done) | (simp [*]; done), by repeat (first | exact Drawn0.refl _ | apply Drawn0.step)⟩

/-! ### resource_int64MultiplyScale100: function 53 -/
def resource_int64MultiplyScale100.j0 : Nat → Int → Bool → Option (Int × Bool)
  | 0, _, _ => none
  | k + 1, x0, x10 => if x10 = true then (some (wrap64 (x0 * 100), true)) else (if x0 = (-9223372036854775808) then (some (0, false)) else (some (wrap64 (x0 * 100), ((wrap64 (Int.tdiv (wrap64 (x0 * 100)) 100)) == x0))))
def resource_int64MultiplyScale100.f (k : Nat) (a0 : Int) : Option (Int × Bool) := if a0 = 0 then (resource_int64MultiplyScale100.j0 k a0 true) else (resource_int64MultiplyScale100.j0 k a0 (a0 == 1))
theorem resource_int64MultiplyScale100.mono_l : ∀ k, (∀ y0 y1, LeO (resource_int64MultiplyScale100.j0 k y0 y1) (resource_int64MultiplyScale100.j0 (k + 1) y0 y1))
  | 0 => fun _ _ r h => by simp [resource_int64MultiplyScale100.j0] at h
  | k + 1 => by
    have ih0 := resource_int64MultiplyScale100.mono_l k
    · intro y0 y1
      unfold resource_int64MultiplyScale100.j0
      repeat' first
      | (with_reducible exact ih0 _ _)
      | (with_reducible exact LeO.refl _)
      | (with_reducible exact LeO.none _)
      | (with_reducible refine LeO.ite ?_ ?_)
      | (with_reducible refine LeO.bind ?_ (fun _ => ?_))
      | exact ih0 _ _
      | exact LeO.none _
      | refine LeO.ite ?_ ?_
      | refine LeO.bind ?_ (fun _ => ?_)
theorem resource_int64MultiplyScale100.mono : ∀ a0 k, LeO (resource_int64MultiplyScale100.f k a0) (resource_int64MultiplyScale100.f (k + 1) a0) := by
  intro a0 k
  have ih0 := resource_int64MultiplyScale100.mono_l k
  unfold resource_int64MultiplyScale100.f
  repeat' first
      | (with_reducible exact ih0 _ _)
      | (with_reducible exact LeO.refl _)
      | (with_reducible exact LeO.none _)
      | (with_reducible refine LeO.ite ?_ ?_)
      | (with_reducible refine LeO.bind ?_ (fun _ => ?_))
      | exact ih0 _ _
      | exact LeO.none _
      | refine LeO.ite ?_ ?_
      | refine LeO.bind ?_ (fun _ => ?_)
set_option maxHeartbeats 8000000 in
set_option maxRecDepth 100000 in
theorem resource_int64MultiplyScale100.calls (k : Nat) (a0 : Int) (r1 : Int) (r2 : Bool) (w : World) (h : resource_int64MultiplyScale100.f k a0 = some (r1, r2)) :
    Calls Try.prog 53 #[.int .i64 a0] w fun e w' => e = .returned (.tuple #[.int .i64 r1, .bool r2]) ∧ Drawn0 w w' := by
  have H : (if a0 = 0 then (resource_int64MultiplyScale100.j0 k a0 true) else (resource_int64MultiplyScale100.j0 k a0 (a0 == 1))) = some (r1, r2) := h
  clear h
  have HC2 := Aside0.mk H
  clear H
  go_enter Try.func53, Try.ntmps53
  go_upto_region 1 with (fail)
  go_cut [10] (fun v10 wc => ∃ (kq : Nat) (x10_1 : Bool), v10 = .bool x10_1 ∧ Aside0 (resource_int64MultiplyScale100.j0 kq a0 x10_1 = some (r1, r2)) ∧ Aside0 (kq ≤ k) ∧ Drawn0 w wc)
  case first =>
    have H := HC2.out
    clear HC2
    by_cases c3 : a0 = 0
    · rw [if_pos c3] at H
      have c3b0 : (a0 == 0) = true := beq_iff_eq.mpr c3
      have c3b1 : (a0 != 0) = false := bne_eq_false_iff_eq.mpr c3
      clear c3
      (first | rw [c3b0] | (simp only [i64_w, i32_w]; rw [c3b0]) | skip)
      have H' := Aside0.mk H
      clear H
      go_wp2
      go_meet
      case rel => exact ⟨_, (true), (by first | rfl | (simp; done) | (simp [*]; done)), H', ⟨by first | omega | exact Nat.le_refl _⟩, by repeat (first | exact Drawn0.refl _ | apply Drawn0.step)⟩
    · rw [if_neg c3] at H
      have c3b0 : (a0 == 0) = false := beq_eq_false_iff_ne.mpr c3
      have c3b1 : (a0 != 0) = true := bne_iff_ne.mpr c3
      (first | rw [c3b0] | (simp only [i64_w, i32_w]; rw [c3b0]) | skip)
      have H' := Aside0.mk H
      clear H
      go_wp2
      go_meet
      case rel => exact ⟨_, ((a0 == 1)), (by first | rfl | (simp; done) | (simp [*]; done)), H', ⟨by first | omega | exact Nat.le_refl _⟩, by repeat (first | exact Drawn0.refl _ | apply Drawn0.step)⟩
  case rest =>
    clear HC2
    try clear p2
    try clear c3
    try clear c3b0
    try clear c3b1
    obtain ⟨kq, x10_1, rfl, HA, HJ1, ⟨mc1, rfl⟩⟩ := hcut
    cases kq with
    | zero => exact absurd HA.out (by simp [resource_int64MultiplyScale100.j0])
    | succ kj1 =>
      have H := HA.out
      clear HA
      simp only [resource_int64MultiplyScale100.j0] at H
      by_cases c4 : x10_1 = true
      · subst c4
        have H1 : (some (wrap64 (a0 * 100), true)) = some (r1, r2) := by rw [if_pos rfl] at H; exact H
        clear H
        have H := H1
        clear H1
        simp only [Option.some.injEq, Prod.mk.injEq] at H
        obtain ⟨rfl, rfl⟩ := H
        go_wp2
        go_ret2
        exact ⟨by first | rfl | (simp; done) | (simp [*]; done), by repeat (first | exact Drawn0.refl _ | apply Drawn0.step)⟩
      · replace c4 := Bool.eq_false_iff.mpr c4
        subst c4
        have H1 : (if a0 = (-9223372036854775808) then (some (0, false)) else (some (wrap64 (a0 * 100), ((wrap64 (Int.tdiv (wrap64 (a0 * 100)) 100)) == a0)))) = some (r1, r2) := by rw [if_neg (show ¬ (false = true) by decide)] at H; exact H
        clear H
        have H := H1
        clear H1
        by_cases c5 : a0 = (-9223372036854775808)
        · rw [if_pos c5] at H
          have c5b0 : (a0 == (-9223372036854775808)) = true := beq_iff_eq.mpr c5
          have c5b1 : (a0 != (-9223372036854775808)) = false := bne_eq_false_iff_eq.mpr c5
          clear c5
          simp only [Option.some.injEq, Prod.mk.injEq] at H
          obtain ⟨rfl, rfl⟩ := H
          go_wp2
          go_ret2
          exact ⟨by first | rfl | (simp; done) | (simp [*]; done), by repeat (first | exact Drawn0.refl _ | apply Drawn0.step)⟩
        · rw [if_neg c5] at H
          have c5b0 : (a0 == (-9223372036854775808)) = false := beq_eq_false_iff_ne.mpr c5
          have c5b1 : (a0 != (-9223372036854775808)) = true := bne_iff_ne.mpr c5
          simp only [Option.some.injEq, Prod.mk.injEq] at H
          obtain ⟨rfl, rfl⟩ := H
          go_wp2
          go_ret2
          exact ⟨by first | rfl | (simp; done) | (simp [*]; done), by repeat (first | exact Drawn0.refl _ | apply Drawn0.step)⟩

/-! ### resource_ZzMultiplyScale100: function 37 -/
def resource_ZzMultiplyScale100.f (k : Nat) (a0 : Int) : Option (Int × Bool) := (resource_int64MultiplyScale100.f k a0).bind fun bt178 => (some (bt178.1, bt178.2))
theorem resource_ZzMultiplyScale100.mono : ∀ a0 k, LeO (resource_ZzMultiplyScale100.f k a0) (resource_ZzMultiplyScale100.f (k + 1) a0) := by
  intro a0 k
  unfold resource_ZzMultiplyScale100.f
  repeat' first
      | (with_reducible exact resource_int64MultiplyScale100.mono _ _)
      | (with_reducible exact LeO.refl _)
      | (with_reducible exact LeO.none _)
      | (with_reducible refine LeO.ite ?_ ?_)
      | (with_reducible refine LeO.bind ?_ (fun _ => ?_))
      | exact resource_int64MultiplyScale100.mono _ _
      | exact LeO.none _
      | refine LeO.ite ?_ ?_
      | refine LeO.bind ?_ (fun _ => ?_)
set_option maxHeartbeats 8000000 in
set_option maxRecDepth 100000 in
theorem resource_ZzMultiplyScale100.calls (k : Nat) (a0 : Int) (r1 : Int) (r2 : Bool) (w : World) (h : resource_ZzMultiplyScale100.f k a0 = some (r1, r2)) :
    Calls Try.prog 37 #[.int .i64 a0] w fun e w' => e = .returned (.tuple #[.int .i64 r1, .bool r2]) ∧ Drawn0 w w' := by
  have H : ((resource_int64MultiplyScale100.f k a0).bind fun bt178 => (some (bt178.1, bt178.2))) = some (r1, r2) := h
  clear h
  replace H := Option.bind_eq_some_iff.mp H
  obtain ⟨⟨t178, t179⟩, A20, H⟩ := H
  replace H : (some (t178, t179)) = some (r1, r2) := H
  have A2 := Aside0.mk A20
  clear A20
  simp only [Option.some.injEq, Prod.mk.injEq] at H
  obtain ⟨rfl, rfl⟩ := H
  go_enter Try.func37, Try.ntmps37
  go_wp2_with (first | ((with_reducible refine gate_callee (f := 53) rfl ?_); refine goesL_ (some 5) rfl rfl Try.func53 (by kernel_rfl) rfl #[.int .i64 a0] rfl (by (try simp only [List.map_toArray, List.map_cons, List.map_nil]); first | done | rfl | (simp only [List.length_drop, List.length_take]; rfl)) ?_; (with_reducible refine (resource_int64MultiplyScale100.calls k a0 t178 t179 _ A2.out).mono ?_); rintro e w' ⟨rfl, ⟨nd, rfl⟩⟩; refine ⟨_, rfl, ?_⟩))
  go_ret2
  exact ⟨by first | rfl | (simp; done) | (simp [*]; done), by repeat (first | exact Drawn0.refl _ | apply Drawn0.step)⟩

/-! ### resource_int64MultiplyScale1000: function 54 -/
def resource_int64MultiplyScale1000.j0 : Nat → Int → Bool → Option (Int × Bool)
  | 0, _, _ => none
  | k + 1, x0, x10 => if x10 = true then (some (wrap64 (x0 * 1000), true)) else (if x0 = (-9223372036854775808) then (some (0, false)) else (some (wrap64 (x0 * 1000), ((wrap64 (Int.tdiv (wrap64 (x0 * 1000)) 1000)) == x0))))
def resource_int64MultiplyScale1000.f (k : Nat) (a0 : Int) : Option (Int × Bool) := if a0 = 0 then (resource_int64MultiplyScale1000.j0 k a0 true) else (resource_int64MultiplyScale1000.j0 k a0 (a0 == 1))
theorem resource_int64MultiplyScale1000.mono_l : ∀ k, (∀ y0 y1, LeO (resource_int64MultiplyScale1000.j0 k y0 y1) (resource_int64MultiplyScale1000.j0 (k + 1) y0 y1))
  | 0 => fun _ _ r h => by simp [resource_int64MultiplyScale1000.j0] at h
  | k + 1 => by
    have ih0 := resource_int64MultiplyScale1000.mono_l k
    · intro y0 y1
      unfold resource_int64MultiplyScale1000.j0
      repeat' first
      | (with_reducible exact ih0 _ _)
      | (with_reducible exact LeO.refl _)
      | (with_reducible exact LeO.none _)
      | (with_reducible refine LeO.ite ?_ ?_)
      | (with_reducible refine LeO.bind ?_ (fun _ => ?_))
      | exact ih0 _ _
      | exact LeO.none _
      | refine LeO.ite ?_ ?_
      | refine LeO.bind ?_ (fun _ => ?_)
theorem resource_int64MultiplyScale1000.mono : ∀ a0 k, LeO (resource_int64MultiplyScale1000.f k a0) (resource_int64MultiplyScale1000.f (k + 1) a0) := by
  intro a0 k
  have ih0 := resource_int64MultiplyScale1000.mono_l k
  unfold resource_int64MultiplyScale1000.f
  repeat' first
      | (with_reducible exact ih0 _ _)
      | (with_reducible exact LeO.refl _)
      | (with_reducible exact LeO.none _)
      | (with_reducible refine LeO.ite ?_ ?_)
      | (with_reducible refine LeO.bind ?_ (fun _ => ?_))
      | exact ih0 _ _
      | exact LeO.none _
      | refine LeO.ite ?_ ?_
      | refine LeO.bind ?_ (fun _ => ?_)
set_option maxHeartbeats 8000000 in
set_option maxRecDepth 100000 in
theorem resource_int64MultiplyScale1000.calls (k : Nat) (a0 : Int) (r1 : Int) (r2 : Bool) (w : World) (h : resource_int64MultiplyScale1000.f k a0 = some (r1, r2)) :
    Calls Try.prog 54 #[.int .i64 a0] w fun e w' => e = .returned (.tuple #[.int .i64 r1, .bool r2]) ∧ Drawn0 w w' := by
  have H : (if a0 = 0 then (resource_int64MultiplyScale1000.j0 k a0 true) else (resource_int64MultiplyScale1000.j0 k a0 (a0 == 1))) = some (r1, r2) := h
  clear h
  have HC2 := Aside0.mk H
  clear H
  go_enter Try.func54, Try.ntmps54
  go_upto_region 1 with (fail)
  go_cut [10] (fun v10 wc => ∃ (kq : Nat) (x10_1 : Bool), v10 = .bool x10_1 ∧ Aside0 (resource_int64MultiplyScale1000.j0 kq a0 x10_1 = some (r1, r2)) ∧ Aside0 (kq ≤ k) ∧ Drawn0 w wc)
  case first =>
    have H := HC2.out
    clear HC2
    by_cases c3 : a0 = 0
    · rw [if_pos c3] at H
      have c3b0 : (a0 == 0) = true := beq_iff_eq.mpr c3
      have c3b1 : (a0 != 0) = false := bne_eq_false_iff_eq.mpr c3
      clear c3
      (first | rw [c3b0] | (simp only [i64_w, i32_w]; rw [c3b0]) | skip)
      have H' := Aside0.mk H
      clear H
      go_wp2
      go_meet
      case rel => exact ⟨_, (true), (by first | rfl | (simp; done) | (simp [*]; done)), H', ⟨by first | omega | exact Nat.le_refl _⟩, by repeat (first | exact Drawn0.refl _ | apply Drawn0.step)⟩
    · rw [if_neg c3] at H
      have c3b0 : (a0 == 0) = false := beq_eq_false_iff_ne.mpr c3
      have c3b1 : (a0 != 0) = true := bne_iff_ne.mpr c3
      (first | rw [c3b0] | (simp only [i64_w, i32_w]; rw [c3b0]) | skip)
      have H' := Aside0.mk H
      clear H
      go_wp2
      go_meet
      case rel => exact ⟨_, ((a0 == 1)), (by first | rfl | (simp; done) | (simp [*]; done)), H', ⟨by first | omega | exact Nat.le_refl _⟩, by repeat (first | exact Drawn0.refl _ | apply Drawn0.step)⟩
  case rest =>
    clear HC2
    try clear p2
    try clear c3
    try clear c3b0
    try clear c3b1
    obtain ⟨kq, x10_1, rfl, HA, HJ1, ⟨mc1, rfl⟩⟩ := hcut
    cases kq with
    | zero => exact absurd HA.out (by simp [resource_int64MultiplyScale1000.j0])
    | succ kj1 =>
      have H := HA.out
      clear HA
      simp only [resource_int64MultiplyScale1000.j0] at H
      by_cases c4 : x10_1 = true
      · subst c4
        have H1 : (some (wrap64 (a0 * 1000), true)) = some (r1, r2) := by rw [if_pos rfl] at H; exact H
        clear H
        have H := H1
        clear H1
        simp only [Option.some.injEq, Prod.mk.injEq] at H
        obtain ⟨rfl, rfl⟩ := H
        go_wp2
        go_ret2
        exact ⟨by first | rfl | (simp; done) | (simp [*]; done), by repeat (first | exact Drawn0.refl _ | apply Drawn0.step)⟩
      · replace c4 := Bool.eq_false_iff.mpr c4
        subst c4
        have H1 : (if a0 = (-9223372036854775808) then (some (0, false)) else (some (wrap64 (a0 * 1000), ((wrap64 (Int.tdiv (wrap64 (a0 * 1000)) 1000)) == a0)))) = some (r1, r2) := by rw [if_neg (show ¬ (false = true) by decide)] at H; exact H
        clear H
        have H := H1
        clear H1
        by_cases c5 : a0 = (-9223372036854775808)
        · rw [if_pos c5] at H
          have c5b0 : (a0 == (-9223372036854775808)) = true := beq_iff_eq.mpr c5
          have c5b1 : (a0 != (-9223372036854775808)) = false := bne_eq_false_iff_eq.mpr c5
          clear c5
          simp only [Option.some.injEq, Prod.mk.injEq] at H
          obtain ⟨rfl, rfl⟩ := H
          go_wp2
          go_ret2
          exact ⟨by first | rfl | (simp; done) | (simp [*]; done), by repeat (first | exact Drawn0.refl _ | apply Drawn0.step)⟩
        · rw [if_neg c5] at H
          have c5b0 : (a0 == (-9223372036854775808)) = false := beq_eq_false_iff_ne.mpr c5
          have c5b1 : (a0 != (-9223372036854775808)) = true := bne_iff_ne.mpr c5
          simp only [Option.some.injEq, Prod.mk.injEq] at H
          obtain ⟨rfl, rfl⟩ := H
          go_wp2
          go_ret2
          exact ⟨by first | rfl | (simp; done) | (simp [*]; done), by repeat (first | exact Drawn0.refl _ | apply Drawn0.step)⟩

/-! ### resource_ZzMultiplyScale1000: function 38 -/
def resource_ZzMultiplyScale1000.f (k : Nat) (a0 : Int) : Option (Int × Bool) := (resource_int64MultiplyScale1000.f k a0).bind fun bt180 => (some (bt180.1, bt180.2))
theorem resource_ZzMultiplyScale1000.mono : ∀ a0 k, LeO (resource_ZzMultiplyScale1000.f k a0) (resource_ZzMultiplyScale1000.f (k + 1) a0) := by
  intro a0 k
  unfold resource_ZzMultiplyScale1000.f
  repeat' first
      | (with_reducible exact resource_int64MultiplyScale1000.mono _ _)
      | (with_reducible exact LeO.refl _)
      | (with_reducible exact LeO.none _)
      | (with_reducible refine LeO.ite ?_ ?_)
      | (with_reducible refine LeO.bind ?_ (fun _ => ?_))
      | exact resource_int64MultiplyScale1000.mono _ _
      | exact LeO.none _
      | refine LeO.ite ?_ ?_
      | refine LeO.bind ?_ (fun _ => ?_)
set_option maxHeartbeats 8000000 in
set_option maxRecDepth 100000 in
theorem resource_ZzMultiplyScale1000.calls (k : Nat) (a0 : Int) (r1 : Int) (r2 : Bool) (w : World) (h : resource_ZzMultiplyScale1000.f k a0 = some (r1, r2)) :
    Calls Try.prog 38 #[.int .i64 a0] w fun e w' => e = .returned (.tuple #[.int .i64 r1, .bool r2]) ∧ Drawn0 w w' := by
  have H : ((resource_int64MultiplyScale1000.f k a0).bind fun bt180 => (some (bt180.1, bt180.2))) = some (r1, r2) := h
  clear h
  replace H := Option.bind_eq_some_iff.mp H
  obtain ⟨⟨t180, t181⟩, A20, H⟩ := H
  replace H : (some (t180, t181)) = some (r1, r2) := H
  have A2 := Aside0.mk A20
  clear A20
  simp only [Option.some.injEq, Prod.mk.injEq] at H
  obtain ⟨rfl, rfl⟩ := H
  go_enter Try.func38, Try.ntmps38
  go_wp2_with (first | ((with_reducible refine gate_callee (f := 54) rfl ?_); refine goesL_ (some 5) rfl rfl Try.func54 (by kernel_rfl) rfl #[.int .i64 a0] rfl (by (try simp only [List.map_toArray, List.map_cons, List.map_nil]); first | done | rfl | (simp only [List.length_drop, List.length_take]; rfl)) ?_; (with_reducible refine (resource_int64MultiplyScale1000.calls k a0 t180 t181 _ A2.out).mono ?_); rintro e w' ⟨rfl, ⟨nd, rfl⟩⟩; refine ⟨_, rfl, ?_⟩))
  go_ret2
  exact ⟨by first | rfl | (simp; done) | (simp [*]; done), by repeat (first | exact Drawn0.refl _ | apply Drawn0.step)⟩

/-! ### impl_Int64Times: function 15 -/
def impl_Int64Times.f (k : Nat) (a0 : Int) (a1 : Int) : Option (Int × Bool) := if a0 = 0 then ((resource_ZzMultiplyScale10.f k a1).bind fun bt182 => (some (bt182.1, bt182.2))) else (if a0 = 1 then ((resource_ZzMultiplyScale100.f k a1).bind fun bt184 => (some (bt184.1, bt184.2))) else ((resource_ZzMultiplyScale1000.f k a1).bind fun bt186 => (some (bt186.1, bt186.2))))
theorem impl_Int64Times.mono : ∀ a0 a1 k, LeO (impl_Int64Times.f k a0 a1) (impl_Int64Times.f (k + 1) a0 a1) := by
  intro a0 a1 k
  unfold impl_Int64Times.f
  repeat' first
      | (with_reducible exact resource_ZzMultiplyScale10.mono _ _)
      | (with_reducible exact resource_ZzMultiplyScale100.mono _ _)
      | (with_reducible exact resource_ZzMultiplyScale1000.mono _ _)
      | (with_reducible exact LeO.refl _)
      | (with_reducible exact LeO.none _)
      | (with_reducible refine LeO.ite ?_ ?_)
      | (with_reducible refine LeO.bind ?_ (fun _ => ?_))
      | exact resource_ZzMultiplyScale10.mono _ _
      | exact resource_ZzMultiplyScale100.mono _ _
      | exact resource_ZzMultiplyScale1000.mono _ _
      | exact LeO.none _
      | refine LeO.ite ?_ ?_
      | refine LeO.bind ?_ (fun _ => ?_)
set_option maxHeartbeats 8000000 in
set_option maxRecDepth 100000 in
theorem impl_Int64Times.calls (k : Nat) (a0 : Int) (a1 : Int) (r1 : Int) (r2 : Bool) (w : World) (h : impl_Int64Times.f k a0 a1 = some (r1, r2)) :
    Calls Try.prog 15 #[.int .i64 a0, .int .i64 a1] w fun e w' => e = .returned (.tuple #[.int .i64 r1, .bool r2]) ∧ Drawn0 w w' := by
  have H : (if a0 = 0 then ((resource_ZzMultiplyScale10.f k a1).bind fun bt182 => (some (bt182.1, bt182.2))) else (if a0 = 1 then ((resource_ZzMultiplyScale100.f k a1).bind fun bt184 => (some (bt184.1, bt184.2))) else ((resource_ZzMultiplyScale1000.f k a1).bind fun bt186 => (some (bt186.1, bt186.2))))) = some (r1, r2) := h
  clear h
  by_cases c3 : a0 = 0
  · rw [if_pos c3] at H
    have c3b0 : (a0 == 0) = true := beq_iff_eq.mpr c3
    have c3b1 : (a0 != 0) = false := bne_eq_false_iff_eq.mpr c3
    clear c3
    replace H := Option.bind_eq_some_iff.mp H
    obtain ⟨⟨t182, t183⟩, A40, H⟩ := H
    replace H : (some (t182, t183)) = some (r1, r2) := H
    have A4 := Aside0.mk A40
    clear A40
    simp only [Option.some.injEq, Prod.mk.injEq] at H
    obtain ⟨rfl, rfl⟩ := H
    go_enter Try.func15, Try.ntmps15
    go_wp2_with (first | ((with_reducible refine gate_callee (f := 36) rfl ?_); refine goesL_ (some 10) rfl rfl Try.func36 (by kernel_rfl) rfl #[.int .i64 a1] rfl (by (try simp only [List.map_toArray, List.map_cons, List.map_nil]); first | done | rfl | (simp only [List.length_drop, List.length_take]; rfl)) ?_; (with_reducible refine (resource_ZzMultiplyScale10.calls k a1 t182 t183 _ A4.out).mono ?_); rintro e w' ⟨rfl, ⟨nd, rfl⟩⟩; refine ⟨_, rfl, ?_⟩))
    go_ret2
    exact ⟨by first | rfl | (simp; done) | (simp [*]; done), by repeat (first | exact Drawn0.refl _ | apply Drawn0.step)⟩
  · rw [if_neg c3] at H
    have c3b0 : (a0 == 0) = false := beq_eq_false_iff_ne.mpr c3
    have c3b1 : (a0 != 0) = true := bne_iff_ne.mpr c3
    by_cases c5 : a0 = 1
    · rw [if_pos c5] at H
      have c5b0 : (a0 == 1) = true := beq_iff_eq.mpr c5
      have c5b1 : (a0 != 1) = false := bne_eq_false_iff_eq.mpr c5
      clear c5
      replace H := Option.bind_eq_some_iff.mp H
      obtain ⟨⟨t184, t185⟩, A60, H⟩ := H
      replace H : (some (t184, t185)) = some (r1, r2) := H
      have A6 := Aside0.mk A60
      clear A60
      simp only [Option.some.injEq, Prod.mk.injEq] at H
      obtain ⟨rfl, rfl⟩ := H
      go_enter Try.func15, Try.ntmps15
      go_wp2_with (first | ((with_reducible refine gate_callee (f := 37) rfl ?_); refine goesL_ (some 16) rfl rfl Try.func37 (by kernel_rfl) rfl #[.int .i64 a1] rfl (by (try simp only [List.map_toArray, List.map_cons, List.map_nil]); first | done | rfl | (simp only [List.length_drop, List.length_take]; rfl)) ?_; (with_reducible refine (resource_ZzMultiplyScale100.calls k a1 t184 t185 _ A6.out).mono ?_); rintro e w' ⟨rfl, ⟨nd, rfl⟩⟩; refine ⟨_, rfl, ?_⟩))
      go_ret2
      exact ⟨by first | rfl | (simp; done) | (simp [*]; done), by repeat (first | exact Drawn0.refl _ | apply Drawn0.step)⟩
    · rw [if_neg c5] at H
      have c5b0 : (a0 == 1) = false := beq_eq_false_iff_ne.mpr c5
      have c5b1 : (a0 != 1) = true := bne_iff_ne.mpr c5
      replace H := Option.bind_eq_some_iff.mp H
      obtain ⟨⟨t186, t187⟩, A70, H⟩ := H
      replace H : (some (t186, t187)) = some (r1, r2) := H
      have A7 := Aside0.mk A70
      clear A70
      simp only [Option.some.injEq, Prod.mk.injEq] at H
      obtain ⟨rfl, rfl⟩ := H
      go_enter Try.func15, Try.ntmps15
      go_wp2_with (first | ((with_reducible refine gate_callee (f := 38) rfl ?_); refine goesL_ (some 20) rfl rfl Try.func38 (by kernel_rfl) rfl #[.int .i64 a1] rfl (by (try simp only [List.map_toArray, List.map_cons, List.map_nil]); first | done | rfl | (simp only [List.length_drop, List.length_take]; rfl)) ?_; (with_reducible refine (resource_ZzMultiplyScale1000.calls k a1 t186 t187 _ A7.out).mono ?_); rintro e w' ⟨rfl, ⟨nd, rfl⟩⟩; refine ⟨_, rfl, ?_⟩))
      go_ret2
      exact ⟨by first | rfl | (simp; done) | (simp [*]; done), by repeat (first | exact Drawn0.refl _ | apply Drawn0.step)⟩

/-! ### resource_int64MultiplyScale: function 58 -/
def resource_int64MultiplyScale.j0 : Nat → Int → Int → Bool → Option (Int × Bool)
  | 0, _, _, _ => none
  | k + 1, x0, x1, x12 => if x12 = true then (some (wrap64 (x0 * x1), true)) else (if x0 = (-9223372036854775808) then (if x1 = 1 then (if x1 = 0 then (none) else (some (wrap64 (x0 * x1), ((wrap64 (Int.tdiv (wrap64 (x0 * x1)) x1)) == x0)))) else (some (0, false))) else (if x1 = 0 then (none) else (some (wrap64 (x0 * x1), ((wrap64 (Int.tdiv (wrap64 (x0 * x1)) x1)) == x0)))))
def resource_int64MultiplyScale.f (k : Nat) (a0 : Int) (a1 : Int) : Option (Int × Bool) := if a0 = 0 then (resource_int64MultiplyScale.j0 k a0 a1 true) else (resource_int64MultiplyScale.j0 k a0 a1 (a0 == 1))
theorem resource_int64MultiplyScale.mono_l : ∀ k, (∀ y0 y1 y2, LeO (resource_int64MultiplyScale.j0 k y0 y1 y2) (resource_int64MultiplyScale.j0 (k + 1) y0 y1 y2))
  | 0 => fun _ _ _ r h => by simp [resource_int64MultiplyScale.j0] at h
  | k + 1 => by
    have ih0 := resource_int64MultiplyScale.mono_l k
    · intro y0 y1 y2
      unfold resource_int64MultiplyScale.j0
      repeat' first
      | (with_reducible exact ih0 _ _ _)
      | (with_reducible exact LeO.refl _)
      | (with_reducible exact LeO.none _)
      | (with_reducible refine LeO.ite ?_ ?_)
      | (with_reducible refine LeO.bind ?_ (fun _ => ?_))
      | exact ih0 _ _ _
      | exact LeO.none _
      | refine LeO.ite ?_ ?_
      | refine LeO.bind ?_ (fun _ => ?_)
theorem resource_int64MultiplyScale.mono : ∀ a0 a1 k, LeO (resource_int64MultiplyScale.f k a0 a1) (resource_int64MultiplyScale.f (k + 1) a0 a1) := by
  intro a0 a1 k
  have ih0 := resource_int64MultiplyScale.mono_l k
  unfold resource_int64MultiplyScale.f
  repeat' first
      | (with_reducible exact ih0 _ _ _)
      | (with_reducible exact LeO.refl _)
      | (with_reducible exact LeO.none _)
      | (with_reducible refine LeO.ite ?_ ?_)
      | (with_reducible refine LeO.bind ?_ (fun _ => ?_))
      | exact ih0 _ _ _
      | exact LeO.none _
      | refine LeO.ite ?_ ?_
      | refine LeO.bind ?_ (fun _ => ?_)
set_option maxHeartbeats 8000000 in
set_option maxRecDepth 100000 in
theorem resource_int64MultiplyScale.calls (k : Nat) (a0 : Int) (a1 : Int) (r1 : Int) (r2 : Bool) (w : World) (h : resource_int64MultiplyScale.f k a0 a1 = some (r1, r2)) :
    Calls Try.prog 58 #[.int .i64 a0, .int .i64 a1] w fun e w' => e = .returned (.tuple #[.int .i64 r1, .bool r2]) ∧ Drawn0 w w' := by
  have H : (if a0 = 0 then (resource_int64MultiplyScale.j0 k a0 a1 true) else (resource_int64MultiplyScale.j0 k a0 a1 (a0 == 1))) = some (r1, r2) := h
  clear h
  have HC3 := Aside0.mk H
  clear H
  go_enter Try.func58, Try.ntmps58
  go_upto_region 1 with (fail)
  repeat (go_quiet (fail); go_upto_region 1 with (fail))
  go_cut [12] (fun v12 wc => ∃ (kq : Nat) (x12_2 : Bool), v12 = .bool x12_2 ∧ Aside0 (resource_int64MultiplyScale.j0 kq a0 a1 x12_2 = some (r1, r2)) ∧ Aside0 (kq ≤ k) ∧ Drawn0 w wc)
  case first =>
    have H := HC3.out
    clear HC3
    by_cases c4 : a0 = 0
    · rw [if_pos c4] at H
      have c4b0 : (a0 == 0) = true := beq_iff_eq.mpr c4
      have c4b1 : (a0 != 0) = false := bne_eq_false_iff_eq.mpr c4
      clear c4
      (first | rw [c4b0] | (simp only [i64_w, i32_w]; rw [c4b0]) | skip)
      have H' := Aside0.mk H
      clear H
      go_wp2
      repeat (go_quiet (fail); try go_wp2)
      go_meet
      case rel => exact ⟨_, (true), (by first | rfl | (simp; done) | (simp [*]; done)), H', ⟨by first | omega | exact Nat.le_refl _⟩, by repeat (first | exact Drawn0.refl _ | apply Drawn0.step)⟩
    · rw [if_neg c4] at H
      have c4b0 : (a0 == 0) = false := beq_eq_false_iff_ne.mpr c4
      have c4b1 : (a0 != 0) = true := bne_iff_ne.mpr c4
      (first | rw [c4b0] | (simp only [i64_w, i32_w]; rw [c4b0]) | skip)
      have H' := Aside0.mk H
      clear H
      go_wp2
      repeat (go_quiet (fail); try go_wp2)
      go_meet
      case rel => exact ⟨_, ((a0 == 1)), (by first | rfl | (simp; done) | (simp [*]; done)), H', ⟨by first | omega | exact Nat.le_refl _⟩, by repeat (first | exact Drawn0.refl _ | apply Drawn0.step)⟩
  case rest =>
    clear HC3
    try clear p2
    try clear c4
    try clear c4b0
    try clear c4b1
    obtain ⟨kq, x12_2, rfl, HA, HJ2, ⟨mc2, rfl⟩⟩ := hcut
    cases kq with
    | zero => exact absurd HA.out (by simp [resource_int64MultiplyScale.j0])
    | succ kj2 =>
      have H := HA.out
      clear HA
      simp only [resource_int64MultiplyScale.j0] at H
      by_cases c5 : x12_2 = true
      · subst c5
        have H1 : (some (wrap64 (a0 * a1), true)) = some (r1, r2) := by rw [if_pos rfl] at H; exact H
        clear H
        have H := H1
        clear H1
        simp only [Option.some.injEq, Prod.mk.injEq] at H
        obtain ⟨rfl, rfl⟩ := H
        go_wp2
        repeat (go_quiet (fail); try go_wp2)
        go_ret2
        exact ⟨by first | rfl | (simp; done) | (simp [*]; done), by repeat (first | exact Drawn0.refl _ | apply Drawn0.step)⟩
      · replace c5 := Bool.eq_false_iff.mpr c5
        subst c5
        have H1 : (if a0 = (-9223372036854775808) then (if a1 = 1 then (if a1 = 0 then (none) else (some (wrap64 (a0 * a1), ((wrap64 (Int.tdiv (wrap64 (a0 * a1)) a1)) == a0)))) else (some (0, false))) else (if a1 = 0 then (none) else (some (wrap64 (a0 * a1), ((wrap64 (Int.tdiv (wrap64 (a0 * a1)) a1)) == a0))))) = some (r1, r2) := by rw [if_neg (show ¬ (false = true) by decide)] at H; exact H
        clear H
        have H := H1
        clear H1
        by_cases c6 : a0 = (-9223372036854775808)
        · rw [if_pos c6] at H
          have c6b0 : (a0 == (-9223372036854775808)) = true := beq_iff_eq.mpr c6
          have c6b1 : (a0 != (-9223372036854775808)) = false := bne_eq_false_iff_eq.mpr c6
          clear c6
          by_cases c7 : a1 = 1
          · rw [if_pos c7] at H
            have c7b0 : (a1 == 1) = true := beq_iff_eq.mpr c7
            have c7b1 : (a1 != 1) = false := bne_eq_false_iff_eq.mpr c7
            clear c7
            by_cases c8 : a1 = 0
            · rw [if_pos c8] at H
              exact absurd H (by simp)
            · rw [if_neg c8] at H
              have c8b0 : (a1 == 0) = false := beq_eq_false_iff_ne.mpr c8
              have c8b1 : (a1 != 0) = true := bne_iff_ne.mpr c8
              simp only [Option.some.injEq, Prod.mk.injEq] at H
              obtain ⟨rfl, rfl⟩ := H
              go_wp2
              repeat (go_quiet (fail); try go_wp2)
              go_ret2
              exact ⟨by first | rfl | (simp; done) | (simp [*]; done), by repeat (first | exact Drawn0.refl _ | apply Drawn0.step)⟩
          · rw [if_neg c7] at H
            have c7b0 : (a1 == 1) = false := beq_eq_false_iff_ne.mpr c7
            have c7b1 : (a1 != 1) = true := bne_iff_ne.mpr c7
            simp only [Option.some.injEq, Prod.mk.injEq] at H
            obtain ⟨rfl, rfl⟩ := H
            go_wp2
            repeat (go_quiet (fail); try go_wp2)
            go_ret2
            exact ⟨by first | rfl | (simp; done) | (simp [*]; done), by repeat (first | exact Drawn0.refl _ | apply Drawn0.step)⟩
        · rw [if_neg c6] at H
          have c6b0 : (a0 == (-9223372036854775808)) = false := beq_eq_false_iff_ne.mpr c6
          have c6b1 : (a0 != (-9223372036854775808)) = true := bne_iff_ne.mpr c6
          by_cases c9 : a1 = 0
          · rw [if_pos c9] at H
            exact absurd H (by simp)
          · rw [if_neg c9] at H
            have c9b0 : (a1 == 0) = false := beq_eq_false_iff_ne.mpr c9
            have c9b1 : (a1 != 0) = true := bne_iff_ne.mpr c9
            simp only [Option.some.injEq, Prod.mk.injEq] at H
            obtain ⟨rfl, rfl⟩ := H
            go_wp2
            repeat (go_quiet (fail); try go_wp2)
            go_ret2
            exact ⟨by first | rfl | (simp; done) | (simp [*]; done), by repeat (first | exact Drawn0.refl _ | apply Drawn0.step)⟩

end Go.Proofs.Ytpchihkegmihiaa.PFnScaleTens
