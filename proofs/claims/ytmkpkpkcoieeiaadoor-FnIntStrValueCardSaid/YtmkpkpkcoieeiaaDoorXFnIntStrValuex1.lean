/- A text of this session: the functions of the law FnIntStrValue, by a program that calls the kit's print and lays this session's own contracts of single functions beside. -/
import Derived.Test.YtmkpkpkcoieeiaaDoorXFnIntStrValuex0
namespace Go.Proofs.YtmkpkpkcoieeiaaDoor.XFnIntStrValue
open Go.RowKit Go.Proofs.YtmkpkpkcoieeiaaDoorW.PrintWords Go.Proofs.YtmkpkpkcoieeiaaDoorW.PrintLast Go.Proofs.YtmkpkpkcoieeiaaDoorW.PrintMore
attribute [local go_sem] max2_int min2_int max_two min_two max_three min_three max_four min_four   -- for this text's walks alone
set_option linter.unusedVariables false
set_option linter.unusedSimpArgs false

/-! ### spec_NumWhole: function 8 -/
mutual
def spec_NumWhole.j0 : Nat → ByteArray → Int → Int → Bool → Option (Int × Bool)
  | 0, _, _, _, _ => none
  | k + 1, x0, x1, x2, x8 => if x8 = true then (spec_NumWhole.j1 k x0 x1 x2 x8 true) else (if x0.toList = ([] : List UInt8) then (spec_NumWhole.j1 k x0 x1 x2 x8 false) else (if 0 < (x0.size : Int) then (spec_NumWhole.j1 k x0 x1 x2 x8 ((bt x0 0) == 43)) else (none)))
def spec_NumWhole.j1 : Nat → ByteArray → Int → Int → Bool → Bool → Option (Int × Bool)
  | 0, _, _, _, _, _ => none
  | k + 1, x0, x1, x2, x8, x28 => if x28 = true then (if 1 ≤ (x0.size : Int) then (spec_NumWhole.j2 k (x0.extract 1 x0.size) x1 x2 x8) else (none)) else (spec_NumWhole.j2 k x0 x1 x2 x8)
def spec_NumWhole.j2 : Nat → ByteArray → Int → Int → Bool → Option (Int × Bool)
  | 0, _, _, _, _ => none
  | k + 1, x0, x1, x2, x8 => if x0.toList = ([] : List UInt8) then (some (0, false)) else (spec_NumWhole.l0 k x0 x1 x2 x8 0 0)
def spec_NumWhole.l0 : Nat → ByteArray → Int → Int → Bool → Int → Int → Option (Int × Bool)
  | 0, _, _, _, _, _, _ => none
  | k + 1, x0, x1, x2, x8, x9, x10 => if x10 < (x0.size : Int) then (if 0 ≤ x10 then (if (wrap64 ((wrap64 (bt x0 x10)) - 48)) < 0 then (spec_NumWhole.j4 k x0 x1 x2 x8 x9 x10 (wrap64 ((wrap64 (bt x0 x10)) - 48)) true) else (spec_NumWhole.j4 k x0 x1 x2 x8 x9 x10 (wrap64 ((wrap64 (bt x0 x10)) - 48)) (decide ((wrap64 ((wrap64 (bt x0 x10)) - 48)) > 9)))) else (none)) else (if x9 ≥ x1 then (some (x9, decide (x9 ≤ x2))) else (some (x9, false)))
def spec_NumWhole.j4 : Nat → ByteArray → Int → Int → Bool → Int → Int → Int → Bool → Option (Int × Bool)
  | 0, _, _, _, _, _, _, _, _ => none
  | k + 1, x0, x1, x2, x8, x9, x10, x11, x49 => if x49 = true then (some (0, false)) else (if x8 = true then (if x9 < (wrap64 (Int.tdiv (wrap64 (x1 + x11)) 10)) then (some (0, false)) else (spec_NumWhole.l0 k x0 x1 x2 x8 (wrap64 ((wrap64 (10 * x9)) - x11)) (wrap64 (x10 + 1)))) else (if x9 > (wrap64 (Int.tdiv (wrap64 (x2 - x11)) 10)) then (some (0, false)) else (spec_NumWhole.l0 k x0 x1 x2 x8 (wrap64 ((wrap64 (10 * x9)) + x11)) (wrap64 (x10 + 1)))))
end
def spec_NumWhole.f (k : Nat) (a0 : ByteArray) (a1 : Int) (a2 : Int) : Option (Int × Bool) := if a0.toList = ([] : List UInt8) then (spec_NumWhole.j0 k a0 a1 a2 false) else (if 0 < (a0.size : Int) then (spec_NumWhole.j0 k a0 a1 a2 ((bt a0 0) == 45)) else (none))
theorem spec_NumWhole.mono_l : ∀ k, (∀ y0 y1 y2 y3, LeO (spec_NumWhole.j0 k y0 y1 y2 y3) (spec_NumWhole.j0 (k + 1) y0 y1 y2 y3)) ∧ (∀ y0 y1 y2 y3 y4, LeO (spec_NumWhole.j1 k y0 y1 y2 y3 y4) (spec_NumWhole.j1 (k + 1) y0 y1 y2 y3 y4)) ∧ (∀ y0 y1 y2 y3, LeO (spec_NumWhole.j2 k y0 y1 y2 y3) (spec_NumWhole.j2 (k + 1) y0 y1 y2 y3)) ∧ (∀ y0 y1 y2 y3 y4 y5, LeO (spec_NumWhole.l0 k y0 y1 y2 y3 y4 y5) (spec_NumWhole.l0 (k + 1) y0 y1 y2 y3 y4 y5)) ∧ (∀ y0 y1 y2 y3 y4 y5 y6 y7, LeO (spec_NumWhole.j4 k y0 y1 y2 y3 y4 y5 y6 y7) (spec_NumWhole.j4 (k + 1) y0 y1 y2 y3 y4 y5 y6 y7))
  | 0 => ⟨fun _ _ _ _ r h => by simp [spec_NumWhole.j0] at h, fun _ _ _ _ _ r h => by simp [spec_NumWhole.j1] at h, fun _ _ _ _ r h => by simp [spec_NumWhole.j2] at h, fun _ _ _ _ _ _ r h => by simp [spec_NumWhole.l0] at h, fun _ _ _ _ _ _ _ _ r h => by simp [spec_NumWhole.j4] at h⟩
  | k + 1 => by
    obtain ⟨ih0, ih1, ih2, ih3, ih4⟩ := spec_NumWhole.mono_l k
    refine ⟨?_, ?_, ?_, ?_, ?_⟩
    · intro y0 y1 y2 y3
      unfold spec_NumWhole.j0
      repeat' first
      | (with_reducible exact ih0 _ _ _ _)
      | (with_reducible exact ih1 _ _ _ _ _)
      | (with_reducible exact ih2 _ _ _ _)
      | (with_reducible exact ih3 _ _ _ _ _ _)
      | (with_reducible exact ih4 _ _ _ _ _ _ _ _)
      | (with_reducible exact LeO.refl _)
      | (with_reducible exact LeO.none _)
      | (with_reducible refine LeO.ite ?_ ?_)
      | (with_reducible refine LeO.bind ?_ (fun _ => ?_))
      | exact ih0 _ _ _ _
      | exact ih1 _ _ _ _ _
      | exact ih2 _ _ _ _
      | exact ih3 _ _ _ _ _ _
      | exact ih4 _ _ _ _ _ _ _ _
      | exact LeO.none _
      | refine LeO.ite ?_ ?_
      | refine LeO.bind ?_ (fun _ => ?_)
    · intro y0 y1 y2 y3 y4
      unfold spec_NumWhole.j1
      repeat' first
      | (with_reducible exact ih0 _ _ _ _)
      | (with_reducible exact ih1 _ _ _ _ _)
      | (with_reducible exact ih2 _ _ _ _)
      | (with_reducible exact ih3 _ _ _ _ _ _)
      | (with_reducible exact ih4 _ _ _ _ _ _ _ _)
      | (with_reducible exact LeO.refl _)
      | (with_reducible exact LeO.none _)
      | (with_reducible refine LeO.ite ?_ ?_)
      | (with_reducible refine LeO.bind ?_ (fun _ => ?_))
      | exact ih0 _ _ _ _
      | exact ih1 _ _ _ _ _
      | exact ih2 _ _ _ _
      | exact ih3 _ _ _ _ _ _
      | exact ih4 _ _ _ _ _ _ _ _
      | exact LeO.none _
      | refine LeO.ite ?_ ?_
      | refine LeO.bind ?_ (fun _ => ?_)
    · intro y0 y1 y2 y3
      unfold spec_NumWhole.j2
      repeat' first
      | (with_reducible exact ih0 _ _ _ _)
      | (with_reducible exact ih1 _ _ _ _ _)
      | (with_reducible exact ih2 _ _ _ _)
      | (with_reducible exact ih3 _ _ _ _ _ _)
      | (with_reducible exact ih4 _ _ _ _ _ _ _ _)
      | (with_reducible exact LeO.refl _)
      | (with_reducible exact LeO.none _)
      | (with_reducible refine LeO.ite ?_ ?_)
      | (with_reducible refine LeO.bind ?_ (fun _ => ?_))
      | exact ih0 _ _ _ _
      | exact ih1 _ _ _ _ _
      | exact ih2 _ _ _ _
      | exact ih3 _ _ _ _ _ _
      | exact ih4 _ _ _ _ _ _ _ _
      | exact LeO.none _
      | refine LeO.ite ?_ ?_
      | refine LeO.bind ?_ (fun _ => ?_)
    · intro y0 y1 y2 y3 y4 y5
      unfold spec_NumWhole.l0
      repeat' first
      | (with_reducible exact ih0 _ _ _ _)
      | (with_reducible exact ih1 _ _ _ _ _)
      | (with_reducible exact ih2 _ _ _ _)
      | (with_reducible exact ih3 _ _ _ _ _ _)
      | (with_reducible exact ih4 _ _ _ _ _ _ _ _)
      | (with_reducible exact LeO.refl _)
      | (with_reducible exact LeO.none _)
      | (with_reducible refine LeO.ite ?_ ?_)
      | (with_reducible refine LeO.bind ?_ (fun _ => ?_))
      | exact ih0 _ _ _ _
      | exact ih1 _ _ _ _ _
      | exact ih2 _ _ _ _
      | exact ih3 _ _ _ _ _ _
      | exact ih4 _ _ _ _ _ _ _ _
      | exact LeO.none _
      | refine LeO.ite ?_ ?_
      | refine LeO.bind ?_ (fun _ => ?_)
    · intro y0 y1 y2 y3 y4 y5 y6 y7
      unfold spec_NumWhole.j4
      repeat' first
      | (with_reducible exact ih0 _ _ _ _)
      | (with_reducible exact ih1 _ _ _ _ _)
      | (with_reducible exact ih2 _ _ _ _)
      | (with_reducible exact ih3 _ _ _ _ _ _)
      | (with_reducible exact ih4 _ _ _ _ _ _ _ _)
      | (with_reducible exact LeO.refl _)
      | (with_reducible exact LeO.none _)
      | (with_reducible refine LeO.ite ?_ ?_)
      | (with_reducible refine LeO.bind ?_ (fun _ => ?_))
      | exact ih0 _ _ _ _
      | exact ih1 _ _ _ _ _
      | exact ih2 _ _ _ _
      | exact ih3 _ _ _ _ _ _
      | exact ih4 _ _ _ _ _ _ _ _
      | exact LeO.none _
      | refine LeO.ite ?_ ?_
      | refine LeO.bind ?_ (fun _ => ?_)
theorem spec_NumWhole.mono : ∀ a0 a1 a2 k, LeO (spec_NumWhole.f k a0 a1 a2) (spec_NumWhole.f (k + 1) a0 a1 a2) := by
  intro a0 a1 a2 k
  obtain ⟨ih0, ih1, ih2, ih3, ih4⟩ := spec_NumWhole.mono_l k
  unfold spec_NumWhole.f
  repeat' first
      | (with_reducible exact ih0 _ _ _ _)
      | (with_reducible exact ih1 _ _ _ _ _)
      | (with_reducible exact ih2 _ _ _ _)
      | (with_reducible exact ih3 _ _ _ _ _ _)
      | (with_reducible exact ih4 _ _ _ _ _ _ _ _)
      | (with_reducible exact LeO.refl _)
      | (with_reducible exact LeO.none _)
      | (with_reducible refine LeO.ite ?_ ?_)
      | (with_reducible refine LeO.bind ?_ (fun _ => ?_))
      | exact ih0 _ _ _ _
      | exact ih1 _ _ _ _ _
      | exact ih2 _ _ _ _
      | exact ih3 _ _ _ _ _ _
      | exact ih4 _ _ _ _ _ _ _ _
      | exact LeO.none _
      | refine LeO.ite ?_ ?_
      | refine LeO.bind ?_ (fun _ => ?_)
set_option maxHeartbeats 8000000 in
set_option maxRecDepth 100000 in
theorem spec_NumWhole.calls (k : Nat) (a0 : ByteArray) (a1 : Int) (a2 : Int) (r1 : Int) (r2 : Bool) (w : World) (h : spec_NumWhole.f k a0 a1 a2 = some (r1, r2)) :
    Calls Tryd.prog 8 #[.string a0, .int .i64 a1, .int .i64 a2] w fun e w' => e = .returned (.tuple #[.int .i64 r1, .bool r2]) ∧ Drawn0 w w' := by
  have H : (if a0.toList = ([] : List UInt8) then (spec_NumWhole.j0 k a0 a1 a2 false) else (if 0 < (a0.size : Int) then (spec_NumWhole.j0 k a0 a1 a2 ((bt a0 0) == 45)) else (none))) = some (r1, r2) := h
  clear h
  have HC4 := Aside0.mk H
  clear H
  go_enter Tryd.func8, Tryd.ntmps8
  go_upto_region 1 with (fail)
  go_cut [8] (fun v8 wc => ∃ (kq : Nat) (x8_3 : Bool), v8 = .bool x8_3 ∧ Aside0 (spec_NumWhole.j0 kq a0 a1 a2 x8_3 = some (r1, r2)) ∧ Aside0 (kq ≤ k) ∧ Drawn0 w wc)
  case first =>
    have H := HC4.out
    clear HC4
    by_cases c5 : a0.toList = ([] : List UInt8)
    · rw [if_pos c5] at H
      have c5b0 : (a0.toList == ([] : List UInt8)) = true := beq_iff_eq.mpr c5
      have c5b1 : (a0.toList != ([] : List UInt8)) = false := bne_eq_false_iff_eq.mpr c5
      clear c5
      (first | rw [c5b0] | (simp only [i64_w, i32_w]; rw [c5b0]) | skip)
      have H' := Aside0.mk H
      clear H
      go_wp2
      go_meet
      case rel => exact ⟨_, (false), (by first | rfl | (simp; done) | (simp [*]; done)), H', ⟨by first | omega | exact Nat.le_refl _⟩, by repeat (first | exact Drawn0.refl _ | apply Drawn0.step)⟩
    · rw [if_neg c5] at H
      have c5b0 : (a0.toList == ([] : List UInt8)) = false := beq_eq_false_iff_ne.mpr c5
      have c5b1 : (a0.toList != ([] : List UInt8)) = true := bne_iff_ne.mpr c5
      (first | rw [c5b0] | (simp only [i64_w, i32_w]; rw [c5b0]) | skip)
      by_cases c6 : 0 < (a0.size : Int)
      · rw [if_pos c6] at H
        have c6b0 : decide (0 < (a0.size : Int)) = true := decide_eq_true c6
        have c6b1 : decide (0 < a0.size) = true := decide_eq_true (by omega)
        clear c6
        have H' := Aside0.mk H
        clear H
        have p7 : 0 ≤ (0 : Int) := (by omega)
        have q7 : 0 < a0.size := (by have : (0 : Int) < (a0.size : Int) := of_decide_eq_true (by first | (with_reducible assumption) | assumption); omega)
        have hx7 : ∀ h : 0 < a0.size, ((a0[0]'h).toNat : Int) = bt a0 0 := bt_at a0 0
        clear p7
        have qi7 : (0 < (a0.size : Int)) = True := eq_true (of_decide_eq_true (by first | (with_reducible assumption) | assumption))
        replace q7 := eq_true q7
        go_wp2
        go_meet
        case rel => exact ⟨_, (((bt a0 0) == 45)), (by first | rfl | (simp; done) | (simp [*]; done)), H', ⟨by first | omega | exact Nat.le_refl _⟩, by repeat (first | exact Drawn0.refl _ | apply Drawn0.step)⟩
      · rw [if_neg c6] at H
        exact absurd H (by simp)
  case rest =>
    clear HC4
    try clear p2
    try clear c5
    try clear c5b0
    try clear c5b1
    try clear c6
    try clear c6b0
    try clear c6b1
    try clear p7
    try clear q7
    try clear hx7
    try clear qi7
    try clear p7
    try clear q7
    obtain ⟨kq, x8_3, rfl, HA, HJ3, ⟨mc3, rfl⟩⟩ := hcut
    cases kq with
    | zero => exact absurd HA.out (by simp [spec_NumWhole.j0])
    | succ kj3 =>
      have H := HA.out
      clear HA
      simp only [spec_NumWhole.j0] at H
      have HC8 := Aside0.mk H
      clear H
      go_upto_region 2 with (fail)
      go_cut [28] (fun v28 wc => ∃ (kq : Nat) (x28_7 : Bool), v28 = .bool x28_7 ∧ Aside0 (spec_NumWhole.j1 kq a0 a1 a2 x8_3 x28_7 = some (r1, r2)) ∧ Aside0 (kq ≤ kj3) ∧ Drawn0 w wc)
      case first =>
        have H := HC8.out
        clear HC8
        by_cases c9 : x8_3 = true
        · subst c9
          have H1 : (spec_NumWhole.j1 kj3 a0 a1 a2 true true) = some (r1, r2) := by rw [if_pos rfl] at H; exact H
          clear H
          have H := H1
          clear H1
          have H' := Aside0.mk H
          clear H
          go_wp2
          go_meet
          case rel => exact ⟨_, (true), (by first | rfl | (simp; done) | (simp [*]; done)), H', ⟨by have := HJ3.out; first | omega | exact Nat.le_refl _⟩, by repeat (first | exact Drawn0.refl _ | apply Drawn0.step)⟩
        · replace c9 := Bool.eq_false_iff.mpr c9
          subst c9
          have H1 : (if a0.toList = ([] : List UInt8) then (spec_NumWhole.j1 kj3 a0 a1 a2 false false) else (if 0 < (a0.size : Int) then (spec_NumWhole.j1 kj3 a0 a1 a2 false ((bt a0 0) == 43)) else (none))) = some (r1, r2) := by rw [if_neg (show ¬ (false = true) by decide)] at H; exact H
          clear H
          have H := H1
          clear H1
          by_cases c10 : a0.toList = ([] : List UInt8)
          · rw [if_pos c10] at H
            have c10b0 : (a0.toList == ([] : List UInt8)) = true := beq_iff_eq.mpr c10
            have c10b1 : (a0.toList != ([] : List UInt8)) = false := bne_eq_false_iff_eq.mpr c10
            clear c10
            (first | rw [c10b0] | (simp only [i64_w, i32_w]; rw [c10b0]) | skip)
            have H' := Aside0.mk H
            clear H
            go_wp2
            go_meet
            case rel => exact ⟨_, (false), (by first | rfl | (simp; done) | (simp [*]; done)), H', ⟨by have := HJ3.out; first | omega | exact Nat.le_refl _⟩, by repeat (first | exact Drawn0.refl _ | apply Drawn0.step)⟩
          · rw [if_neg c10] at H
            have c10b0 : (a0.toList == ([] : List UInt8)) = false := beq_eq_false_iff_ne.mpr c10
            have c10b1 : (a0.toList != ([] : List UInt8)) = true := bne_iff_ne.mpr c10
            (first | rw [c10b0] | (simp only [i64_w, i32_w]; rw [c10b0]) | skip)
            by_cases c11 : 0 < (a0.size : Int)
            · rw [if_pos c11] at H
              have c11b0 : decide (0 < (a0.size : Int)) = true := decide_eq_true c11
              have c11b1 : decide (0 < a0.size) = true := decide_eq_true (by omega)
              clear c11
              have H' := Aside0.mk H
              clear H
              have p12 : 0 ≤ (0 : Int) := (by omega)
              have q12 : 0 < a0.size := (by have : (0 : Int) < (a0.size : Int) := of_decide_eq_true (by first | (with_reducible assumption) | assumption); omega)
              have hx12 : ∀ h : 0 < a0.size, ((a0[0]'h).toNat : Int) = bt a0 0 := bt_at a0 0
              clear p12
              have qi12 : (0 < (a0.size : Int)) = True := eq_true (of_decide_eq_true (by first | (with_reducible assumption) | assumption))
              replace q12 := eq_true q12
              go_wp2
              go_meet
              case rel => exact ⟨_, (((bt a0 0) == 43)), (by first | rfl | (simp; done) | (simp [*]; done)), H', ⟨by have := HJ3.out; first | omega | exact Nat.le_refl _⟩, by repeat (first | exact Drawn0.refl _ | apply Drawn0.step)⟩
            · rw [if_neg c11] at H
              exact absurd H (by simp)
      case rest =>
        clear HC8
        try clear c1
        try clear p1
        try clear q1
        try clear hx1
        try clear qi1
        try clear p2
        try clear c3
        try clear c5
        try clear c5b0
        try clear c5b1
        try clear c6
        try clear c6b0
        try clear c6b1
        try clear p7
        try clear q7
        try clear hx7
        try clear qi7
        try clear c8
        try clear c9
        try clear c10
        try clear c10b0
        try clear c10b1
        try clear c11
        try clear c11b0
        try clear c11b1
        try clear p12
        try clear q12
        try clear hx12
        try clear qi12
        try clear p12
        try clear p2
        try clear p7
        try clear q12
        try clear q7
        obtain ⟨kq, x28_7, rfl, HA, HJ7, ⟨mc7, rfl⟩⟩ := hcut
        cases kq with
        | zero => exact absurd HA.out (by simp [spec_NumWhole.j1])
        | succ kj7 =>
          have H := HA.out
          clear HA
          simp only [spec_NumWhole.j1] at H
          have HC13 := Aside0.mk H
          clear H
          go_upto_if 28 with (fail)
          go_cut [0] (fun v0 wc => ∃ (kq : Nat) (x0_12 : ByteArray), v0 = .string x0_12 ∧ Aside0 (spec_NumWhole.j2 kq x0_12 a1 a2 x8_3 = some (r1, r2)) ∧ Aside0 (kq ≤ kj7) ∧ Drawn0 w wc)
          case first =>
            have H := HC13.out
            clear HC13
            by_cases c14 : x28_7 = true
            · subst c14
              have H1 : (if 1 ≤ (a0.size : Int) then (spec_NumWhole.j2 kj7 (a0.extract 1 a0.size) a1 a2 x8_3) else (none)) = some (r1, r2) := by rw [if_pos rfl] at H; exact H
              clear H
              have H := H1
              clear H1
              by_cases c15 : 1 ≤ (a0.size : Int)
              · rw [if_pos c15] at H
                have c15b0 := eq_true c15
                have c15b1 : decide (1 ≤ (a0.size : Int)) = true := decide_eq_true c15
                clear c15
                have H' := Aside0.mk H
                clear H
                go_wp2
                go_meet
                case rel => exact ⟨_, (a0.extract 1 a0.size), (by first | rfl | (simp; done) | (simp [*]; done)), H', ⟨by have := HJ3.out; have := HJ7.out; first | omega | exact Nat.le_refl _⟩, by repeat (first | exact Drawn0.refl _ | apply Drawn0.step)⟩
              · rw [if_neg c15] at H
                exact absurd H (by simp)
            · replace c14 := Bool.eq_false_iff.mpr c14
              subst c14
              have H1 : (spec_NumWhole.j2 kj7 a0 a1 a2 x8_3) = some (r1, r2) := by rw [if_neg (show ¬ (false = true) by decide)] at H; exact H
              clear H
              have H := H1
              clear H1
              have H' := Aside0.mk H
              clear H
              go_wp2
              go_meet
              case rel => exact ⟨_, (a0), (by first | rfl | (simp; done) | (simp [*]; done)), H', ⟨by have := HJ3.out; have := HJ7.out; first | omega | exact Nat.le_refl _⟩, by repeat (first | exact Drawn0.refl _ | apply Drawn0.step)⟩
          case rest =>
            clear HC13
            try clear c1
            try clear p1
            try clear q1
            try clear hx1
            try clear qi1
            try clear p2
            try clear c3
            try clear c5
            try clear c5b0
            try clear c5b1
            try clear c6
            try clear c6b0
            try clear c6b1
            try clear c7
            try clear p7
            try clear q7
            try clear hx7
            try clear qi7
            try clear c8
            try clear c9
            try clear c10
            try clear c10b0
            try clear c10b1
            try clear c11
            try clear c11b0
            try clear c11b1
            try clear p12
            try clear q12
            try clear hx12
            try clear qi12
            try clear c14
            try clear c15
            try clear c15b0
            try clear c15b1
            try clear p1
            try clear p12
            try clear p2
            try clear p7
            try clear q1
            try clear q12
            try clear q7
            obtain ⟨kq, x0_12, rfl, HA, HJ12, ⟨mc12, rfl⟩⟩ := hcut
            cases kq with
            | zero => exact absurd HA.out (by simp [spec_NumWhole.j2])
            | succ kj12 =>
              have H := HA.out
              clear HA
              simp only [spec_NumWhole.j2] at H
              by_cases c16 : x0_12.toList = ([] : List UInt8)
              · rw [if_pos c16] at H
                have c16b0 : (x0_12.toList == ([] : List UInt8)) = true := beq_iff_eq.mpr c16
                have c16b1 : (x0_12.toList != ([] : List UInt8)) = false := bne_eq_false_iff_eq.mpr c16
                clear c16
                simp only [Option.some.injEq, Prod.mk.injEq] at H
                obtain ⟨rfl, rfl⟩ := H
                go_wp2
                go_ret2
                exact ⟨by first | rfl | (simp; done) | (simp [*]; done), by repeat (first | exact Drawn0.refl _ | apply Drawn0.step)⟩
              · rw [if_neg c16] at H
                have c16b0 : (x0_12.toList == ([] : List UInt8)) = false := beq_eq_false_iff_ne.mpr c16
                have c16b1 : (x0_12.toList != ([] : List UInt8)) = true := bne_iff_ne.mpr c16
                have H' := Aside0.mk H
                clear H
                go_wp2
                go_loopg [9, 10] kj12 (fun kq v9 v10 w' => ∃ (x9_4 : Int) (x10_4 : Int), v9 = .int .i64 x9_4 ∧ v10 = .int .i64 x10_4 ∧ Aside0 (spec_NumWhole.l0 kq x0_12 a1 a2 x8_3 x9_4 x10_4 = some (r1, r2)) ∧ Aside0 (kq ≤ kj12) ∧ Drawn0 w w')
                case atStart => exact ⟨(0), (0), (by first | rfl | (simp; done) | (simp [*]; done)), (by first | rfl | (simp; done) | (simp [*]; done)), H', ⟨Nat.le_refl _⟩, by repeat (first | exact Drawn0.refl _ | apply Drawn0.step)⟩
                case round =>
                  clear H'
                  try clear c1
                  try clear p1
                  try clear q1
                  try clear hx1
                  try clear qi1
                  try clear p2
                  try clear c3
                  try clear c5
                  try clear c5b0
                  try clear c5b1
                  try clear c6
                  try clear c6b0
                  try clear c6b1
                  try clear c7
                  try clear p7
                  try clear q7
                  try clear hx7
                  try clear qi7
                  try clear c8
                  try clear c9
                  try clear c10
                  try clear c10b0
                  try clear c10b1
                  try clear c11
                  try clear c11b0
                  try clear c11b1
                  try clear c12
                  try clear p12
                  try clear q12
                  try clear hx12
                  try clear qi12
                  try clear c14
                  try clear c15
                  try clear c15b0
                  try clear c15b1
                  try clear c16
                  try clear c16b0
                  try clear c16b1
                  try clear p1
                  try clear p12
                  try clear p2
                  try clear p7
                  try clear q1
                  try clear q12
                  try clear q7
                  obtain ⟨x9_4, x10_4, rfl, rfl, HA, HK4, ⟨m4, rfl⟩⟩ := hrel
                  cases gk with
                  | zero => exact absurd HA.out (by simp [spec_NumWhole.l0])
                  | succ k4 =>
                    have H := HA.out
                    clear HA
                    simp only [spec_NumWhole.l0] at H
                    by_cases c17 : x10_4 < (x0_12.size : Int)
                    · rw [if_pos c17] at H
                      have c17b0 : decide (x10_4 < (x0_12.size : Int)) = true := decide_eq_true c17
                      clear c17
                      by_cases c18 : 0 ≤ x10_4
                      · rw [if_pos c18] at H
                        have c18b0 : decide (0 ≤ x10_4) = true := decide_eq_true c18
                        clear c18
                        have HC20 := Aside0.mk H
                        clear H
                        have p19 : 0 ≤ (x10_4 : Int) := of_decide_eq_true (by first | (with_reducible assumption) | assumption)
                        have q19 : x10_4 < (x0_12.size : Int) := of_decide_eq_true (by first | (with_reducible assumption) | assumption)
                        have hx19 := bt_at x0_12 x10_4
                        replace p19 := eq_true p19
                        replace q19 := eq_true q19
                        go_upto_region 11 with (fail)
                        go_cut [49] (fun v49 wc => ∃ (kq : Nat) (x49_19 : Bool), v49 = .bool x49_19 ∧ Aside0 (spec_NumWhole.j4 kq x0_12 a1 a2 x8_3 x9_4 x10_4 (wrap64 ((wrap64 (bt x0_12 x10_4)) - 48)) x49_19 = some (r1, r2)) ∧ Aside0 (kq ≤ k4) ∧ Drawn0 w wc)
                        case first =>
                          have H := HC20.out
                          clear HC20
                          by_cases c21 : (wrap64 ((wrap64 (bt x0_12 x10_4)) - 48)) < 0
                          · rw [if_pos c21] at H
                            have c21b0 : decide ((wrap64 ((wrap64 (bt x0_12 x10_4)) - 48)) < 0) = true := decide_eq_true c21
                            clear c21
                            (first | rw [c21b0] | (simp only [i64_w, i32_w]; rw [c21b0]) | skip)
                            have H' := Aside0.mk H
                            clear H
                            go_wp2
                            go_meet
                            case rel => exact ⟨_, (true), (by first | rfl | (simp; done) | (simp [*]; done)), H', ⟨by have := HJ3.out; have := HJ7.out; have := HJ12.out; have := HK4.out; first | omega | exact Nat.le_refl _⟩, by repeat (first | exact Drawn0.refl _ | apply Drawn0.step)⟩
                          · rw [if_neg c21] at H
                            have c21b0 : decide ((wrap64 ((wrap64 (bt x0_12 x10_4)) - 48)) < 0) = false := decide_eq_false c21
                            clear c21
                            (first | rw [c21b0] | (simp only [i64_w, i32_w]; rw [c21b0]) | skip)
                            have H' := Aside0.mk H
                            clear H
                            go_wp2
                            go_meet
                            case rel => exact ⟨_, (decide ((wrap64 ((wrap64 (bt x0_12 x10_4)) - 48)) > 9)), (by first | rfl | (simp; done) | (simp [*]; done)), H', ⟨by have := HJ3.out; have := HJ7.out; have := HJ12.out; have := HK4.out; first | omega | exact Nat.le_refl _⟩, by repeat (first | exact Drawn0.refl _ | apply Drawn0.step)⟩
                        case rest =>
                          clear HC20
                          try clear c1
                          try clear p1
                          try clear q1
                          try clear hx1
                          try clear qi1
                          try clear c2
                          try clear p2
                          try clear c3
                          try clear c5
                          try clear c5b0
                          try clear c5b1
                          try clear c6
                          try clear c6b0
                          try clear c6b1
                          try clear p6
                          try clear c7
                          try clear p7
                          try clear q7
                          try clear hx7
                          try clear qi7
                          try clear c8
                          try clear c9
                          try clear c10
                          try clear c10b0
                          try clear c10b1
                          try clear c11
                          try clear c11b0
                          try clear c11b1
                          try clear c12
                          try clear p12
                          try clear q12
                          try clear hx12
                          try clear qi12
                          try clear c14
                          try clear c15
                          try clear c15b0
                          try clear c15b1
                          try clear c16
                          try clear c16b0
                          try clear c16b1
                          try clear c17
                          try clear c17b0
                          try clear c18
                          try clear c18b0
                          try clear p19
                          try clear q19
                          try clear hx19
                          try clear c21
                          try clear c21b0
                          try clear p1
                          try clear p12
                          try clear p19
                          try clear p2
                          try clear p7
                          try clear q1
                          try clear q12
                          try clear q19
                          try clear q7
                          obtain ⟨kq, x49_19, rfl, HA, HJ19, ⟨mc19, rfl⟩⟩ := hcut
                          cases kq with
                          | zero => exact absurd HA.out (by simp [spec_NumWhole.j4])
                          | succ kj19 =>
                            have H := HA.out
                            clear HA
                            simp only [spec_NumWhole.j4] at H
                            by_cases c22 : x49_19 = true
                            · subst c22
                              have H1 : (some (0, false)) = some (r1, r2) := by rw [if_pos rfl] at H; exact H
                              clear H
                              have H := H1
                              clear H1
                              simp only [Option.some.injEq, Prod.mk.injEq] at H
                              obtain ⟨rfl, rfl⟩ := H
                              go_wp2
                              go_ret2
                              exact ⟨by first | rfl | (simp; done) | (simp [*]; done), by repeat (first | exact Drawn0.refl _ | apply Drawn0.step)⟩
                            · replace c22 := Bool.eq_false_iff.mpr c22
                              subst c22
                              have H1 : (if x8_3 = true then (if x9_4 < (wrap64 (Int.tdiv (wrap64 (a1 + (wrap64 ((wrap64 (bt x0_12 x10_4)) - 48)))) 10)) then (some (0, false)) else (spec_NumWhole.l0 kj19 x0_12 a1 a2 x8_3 (wrap64 ((wrap64 (10 * x9_4)) - (wrap64 ((wrap64 (bt x0_12 x10_4)) - 48)))) (wrap64 (x10_4 + 1)))) else (if x9_4 > (wrap64 (Int.tdiv (wrap64 (a2 - (wrap64 ((wrap64 (bt x0_12 x10_4)) - 48)))) 10)) then (some (0, false)) else (spec_NumWhole.l0 kj19 x0_12 a1 a2 x8_3 (wrap64 ((wrap64 (10 * x9_4)) + (wrap64 ((wrap64 (bt x0_12 x10_4)) - 48)))) (wrap64 (x10_4 + 1))))) = some (r1, r2) := by rw [if_neg (show ¬ (false = true) by decide)] at H; exact H
                              clear H
                              have H := H1
                              clear H1
                              by_cases c23 : x8_3 = true
                              · subst c23
                                have H1 : (if x9_4 < (wrap64 (Int.tdiv (wrap64 (a1 + (wrap64 ((wrap64 (bt x0_12 x10_4)) - 48)))) 10)) then (some (0, false)) else (spec_NumWhole.l0 kj19 x0_12 a1 a2 true (wrap64 ((wrap64 (10 * x9_4)) - (wrap64 ((wrap64 (bt x0_12 x10_4)) - 48)))) (wrap64 (x10_4 + 1)))) = some (r1, r2) := by rw [if_pos rfl] at H; exact H
                                clear H
                                have H := H1
                                clear H1
                                by_cases c24 : x9_4 < (wrap64 (Int.tdiv (wrap64 (a1 + (wrap64 ((wrap64 (bt x0_12 x10_4)) - 48)))) 10))
                                · rw [if_pos c24] at H
                                  have c24b0 : decide (x9_4 < (wrap64 (Int.tdiv (wrap64 (a1 + (wrap64 ((wrap64 (bt x0_12 x10_4)) - 48)))) 10))) = true := decide_eq_true c24
                                  clear c24
                                  simp only [Option.some.injEq, Prod.mk.injEq] at H
                                  obtain ⟨rfl, rfl⟩ := H
                                  go_wp2
                                  go_ret2
                                  exact ⟨by first | rfl | (simp; done) | (simp [*]; done), by repeat (first | exact Drawn0.refl _ | apply Drawn0.step)⟩
                                · rw [if_neg c24] at H
                                  have c24b0 : decide (x9_4 < (wrap64 (Int.tdiv (wrap64 (a1 + (wrap64 ((wrap64 (bt x0_12 x10_4)) - 48)))) 10))) = false := decide_eq_false c24
                                  clear c24
                                  have H' := Aside0.mk H
                                  clear H
                                  go_wp2
                                  go_roundg kj19
                                  case measure => have := HJ3.out; have := HJ7.out; have := HJ12.out; have := HK4.out; have := HJ19.out; omega
                                  case rel => exact ⟨(wrap64 ((wrap64 (10 * x9_4)) - (wrap64 ((wrap64 (bt x0_12 x10_4)) - 48)))), (wrap64 (x10_4 + 1)), (by first | rfl | (simp; done) | (simp [*]; done)), (by first | rfl | (simp; done) | (simp [*]; done)), H', ⟨by have := HJ3.out; have := HJ7.out; have := HJ12.out; have := HK4.out; have := HJ19.out; omega⟩, by repeat (first | exact Drawn0.refl _ | apply Drawn0.step)⟩
                              · replace c23 := Bool.eq_false_iff.mpr c23
                                subst c23
                                have H1 : (if x9_4 > (wrap64 (Int.tdiv (wrap64 (a2 - (wrap64 ((wrap64 (bt x0_12 x10_4)) - 48)))) 10)) then (some (0, false)) else (spec_NumWhole.l0 kj19 x0_12 a1 a2 false (wrap64 ((wrap64 (10 * x9_4)) + (wrap64 ((wrap64 (bt x0_12 x10_4)) - 48)))) (wrap64 (x10_4 + 1)))) = some (r1, r2) := by rw [if_neg (show ¬ (false = true) by decide)] at H; exact H
                                clear H
                                have H := H1
                                clear H1
                                by_cases c25 : x9_4 > (wrap64 (Int.tdiv (wrap64 (a2 - (wrap64 ((wrap64 (bt x0_12 x10_4)) - 48)))) 10))
                                · rw [if_pos c25] at H
                                  have c25b0 : decide ((wrap64 (Int.tdiv (wrap64 (a2 - (wrap64 ((wrap64 (bt x0_12 x10_4)) - 48)))) 10)) < x9_4) = true := decide_eq_true c25
                                  clear c25
                                  simp only [Option.some.injEq, Prod.mk.injEq] at H
                                  obtain ⟨rfl, rfl⟩ := H
                                  go_wp2
                                  go_ret2
                                  exact ⟨by first | rfl | (simp; done) | (simp [*]; done), by repeat (first | exact Drawn0.refl _ | apply Drawn0.step)⟩
                                · rw [if_neg c25] at H
                                  have c25b0 : decide ((wrap64 (Int.tdiv (wrap64 (a2 - (wrap64 ((wrap64 (bt x0_12 x10_4)) - 48)))) 10)) < x9_4) = false := decide_eq_false c25
                                  clear c25
                                  have H' := Aside0.mk H
                                  clear H
                                  go_wp2
                                  go_roundg kj19
                                  case measure => have := HJ3.out; have := HJ7.out; have := HJ12.out; have := HK4.out; have := HJ19.out; omega
                                  case rel => exact ⟨(wrap64 ((wrap64 (10 * x9_4)) + (wrap64 ((wrap64 (bt x0_12 x10_4)) - 48)))), (wrap64 (x10_4 + 1)), (by first | rfl | (simp; done) | (simp [*]; done)), (by first | rfl | (simp; done) | (simp [*]; done)), H', ⟨by have := HJ3.out; have := HJ7.out; have := HJ12.out; have := HK4.out; have := HJ19.out; omega⟩, by repeat (first | exact Drawn0.refl _ | apply Drawn0.step)⟩
                      · rw [if_neg c18] at H
                        exact absurd H (by simp)
                    · rw [if_neg c17] at H
                      have c17b0 : decide (x10_4 < (x0_12.size : Int)) = false := decide_eq_false c17
                      clear c17
                      by_cases c26 : x9_4 ≥ a1
                      · rw [if_pos c26] at H
                        have c26b0 : decide (a1 ≤ x9_4) = true := decide_eq_true c26
                        clear c26
                        simp only [Option.some.injEq, Prod.mk.injEq] at H
                        obtain ⟨rfl, rfl⟩ := H
                        go_wp2
                        go_ret2
                        exact ⟨by first | rfl | (simp; done) | (simp [*]; done), by repeat (first | exact Drawn0.refl _ | apply Drawn0.step)⟩
                      · rw [if_neg c26] at H
                        have c26b0 : decide (a1 ≤ x9_4) = false := decide_eq_false c26
                        clear c26
                        simp only [Option.some.injEq, Prod.mk.injEq] at H
                        obtain ⟨rfl, rfl⟩ := H
                        go_wp2
                        go_ret2
                        exact ⟨by first | rfl | (simp; done) | (simp [*]; done), by repeat (first | exact Drawn0.refl _ | apply Drawn0.step)⟩

/-! ### laws_zzFits5: function 9 -/
def laws_zzFits5.f (a0_0 : Int) (a0_1 : Int) (a0_2 : ByteArray) : Option (Bool) := if (a0_2.size : Int) > 2147483647 then (some false) else (some true)
set_option maxHeartbeats 8000000 in
set_option maxRecDepth 100000 in
theorem laws_zzFits5.calls (a0_0 : Int) (a0_1 : Int) (a0_2 : ByteArray) (r : Bool) (w : World) (h : laws_zzFits5.f a0_0 a0_1 a0_2 = some r) :
    Calls Tryd.prog 9 #[.agg #[.int .i64 a0_0, .int .i32 a0_1, .string a0_2]] w fun e w' => e = .returned (.bool r) ∧ Below w.heap.size w w' := by
  have hu23 := Tryd.underlying23
  have HB := Aside0.mk (Below.refl w.heap.size w)
  have H : (if (a0_2.size : Int) > 2147483647 then (some false) else (some true)) = some r := h
  clear h
  by_cases c2 : (a0_2.size : Int) > 2147483647
  · rw [if_pos c2] at H
    have c2b0 : decide (2147483647 < (a0_2.size : Int)) = true := decide_eq_true c2
    have c2b1 : decide (2147483647 < a0_2.size) = true := decide_eq_true (by omega)
    clear c2
    obtain rfl := Option.some.inj H
    go_enter Tryd.func9, Tryd.ntmps9
    go_wp2_with (first | ((with_reducible refine gate_dst (N := 1) rfl ?_); refine box_event ?hg (N := 1) ?hd (cs := #[.int .i64 a0_0, .int .i32 a0_1, .string a0_2]) (t := 23) ?hr ?_; (case hd => rfl); (case hg => rfl); (case hr => first | (go_simp; done) | (go_simp; rfl)); intro gb101 hg w3 hbox hb; have n0_ := Aside0.mk (below_step (by repeat (first | (with_reducible first | exact HB.out | apply below_alloc | apply pw_below_drewN | apply below_drew1) | exact HB.out)) hb); have n1_ := Aside0.mk (hbox); have n2_ := Aside0.mk ((by rw [hg]; exact (below_size (by repeat (first | (with_reducible first | exact HB.out | apply below_alloc | apply pw_below_drewN | apply below_drew1) | exact HB.out))) : w.heap.size ≤ gb101)); have n3_ := Aside0.mk ((by rw [hg]; exact (below_size (by repeat (first | (with_reducible first | exact HB.out | apply below_alloc | apply pw_below_drewN | apply below_drew1) | exact HB.out))) : w.heap.size ≤ gb101)); clear HB; have HB := n0_; have BK101 := n1_; have GW101 := n2_; have GE101 := n3_; clear n0_ n1_ n2_ n3_; clear hb hbox hg; have hcz4_0 : w3.cell? ⟨gb101, 0, none⟩ = some (.int .i64 a0_0) := (blk_cell BK101.out 0).trans rfl; have hcz4_1 : w3.cell? ⟨gb101, 1, none⟩ = some (.int .i32 a0_1) := (blk_cell BK101.out 1).trans rfl; have hcz4_2 : w3.cell? ⟨gb101, 2, none⟩ = some (.string a0_2) := (blk_cell BK101.out 2).trans rfl; have hfz4_0 := blk_frozen BK101.out 0; have hfz4_1 := blk_frozen BK101.out 1; have hfz4_2 := blk_frozen BK101.out 2))
    go_ret
    exact ⟨by first | rfl | (simp [errW_none, errW_some] <;> rfl) | (simp [*, errW_none, errW_some] <;> rfl), by repeat (first | (with_reducible first | exact HB.out | apply below_alloc | apply pw_below_drewN | apply below_drew1 | refine below_set ?_ GE101.out) | exact HB.out)⟩
  · rw [if_neg c2] at H
    have c2b0 : decide (2147483647 < (a0_2.size : Int)) = false := decide_eq_false c2
    have c2b1 : decide (2147483647 < a0_2.size) = false := decide_eq_false (by omega)
    clear c2
    obtain rfl := Option.some.inj H
    go_enter Tryd.func9, Tryd.ntmps9
    go_wp2_with (first | ((with_reducible refine gate_dst (N := 1) rfl ?_); refine box_event ?hg (N := 1) ?hd (cs := #[.int .i64 a0_0, .int .i32 a0_1, .string a0_2]) (t := 23) ?hr ?_; (case hd => rfl); (case hg => rfl); (case hr => first | (go_simp; done) | (go_simp; rfl)); intro gb101 hg w5 hbox hb; have n0_ := Aside0.mk (below_step (by repeat (first | (with_reducible first | exact HB.out | apply below_alloc | apply pw_below_drewN | apply below_drew1) | exact HB.out)) hb); have n1_ := Aside0.mk (hbox); have n2_ := Aside0.mk ((by rw [hg]; exact (below_size (by repeat (first | (with_reducible first | exact HB.out | apply below_alloc | apply pw_below_drewN | apply below_drew1) | exact HB.out))) : w.heap.size ≤ gb101)); have n3_ := Aside0.mk ((by rw [hg]; exact (below_size (by repeat (first | (with_reducible first | exact HB.out | apply below_alloc | apply pw_below_drewN | apply below_drew1) | exact HB.out))) : w.heap.size ≤ gb101)); clear HB; have HB := n0_; have BK101 := n1_; have GW101 := n2_; have GE101 := n3_; clear n0_ n1_ n2_ n3_; clear hb hbox hg; have hcz6_0 : w5.cell? ⟨gb101, 0, none⟩ = some (.int .i64 a0_0) := (blk_cell BK101.out 0).trans rfl; have hcz6_1 : w5.cell? ⟨gb101, 1, none⟩ = some (.int .i32 a0_1) := (blk_cell BK101.out 1).trans rfl; have hcz6_2 : w5.cell? ⟨gb101, 2, none⟩ = some (.string a0_2) := (blk_cell BK101.out 2).trans rfl; have hfz6_0 := blk_frozen BK101.out 0; have hfz6_1 := blk_frozen BK101.out 1; have hfz6_2 := blk_frozen BK101.out 2))
    go_ret
    exact ⟨by first | rfl | (simp [errW_none, errW_some] <;> rfl) | (simp [*, errW_none, errW_some] <;> rfl), by repeat (first | (with_reducible first | exact HB.out | apply below_alloc | apply pw_below_drewN | apply below_drew1 | refine below_set ?_ GE101.out) | exact HB.out)⟩

/-- A state of type 41 at block g of W; what its slices lead to came in by w0. -/
def IsS41 (w0 W : World) (g : Nat) (f0 : Int) (f1 : Int) (f2 : ByteArray) : Prop := W.heap[g]? = some (.cells #[.int .i64 f0, .int .i32 f1, .string f2] 41 (0, 0)) ∧ w0.heap.size ≤ g
theorem IsS41.grown {w0 W : World} {g : Nat} {f0 : Int} {f1 : Int} {f2 : ByteArray} {W1 : World} {row : Option Nat} (h : IsS41 w0 W g f0 f1 f2) (hw : W.grownBy W1 row) (hne : some g ≠ row) : IsS41 w0 W1 g f0 f1 f2 := by
  obtain ⟨hb, hg⟩ := h
  exact ⟨blk_grown hb hw hne, hg⟩
theorem IsS41.own_neN {w0 W : World} {g : Nat} {f0 : Int} {f1 : Int} {f2 : ByteArray} {α : Type} {d : Kd α} {e : Nat} {base : Nat} {ok : Nat → Prop} {v : Value} {xs : List α} (h : IsS41 w0 W g f0 f1 f2) (ho : Kd.N d e W base ok v xs) (ht : e ≠ 41) : some g ≠ v.ownBlock := by
  obtain ⟨hb, hg⟩ := h
  exact Kd.N_ne ho hb ht
theorem IsS41.fresh {w0 W : World} {g : Nat} {f0 : Int} {f1 : Int} {f2 : ByteArray} (h : IsS41 w0 W g f0 f1 f2) : ∀ k, W.heap.size ≤ k → k ≠ g := by
  obtain ⟨hb, hg⟩ := h
  exact Kd.freshB hb
theorem IsS41.kept {w0 W : World} {g : Nat} {f0 : Int} {f1 : Int} {f2 : ByteArray} {W1 : World} {S : Nat → Prop} (h : IsS41 w0 W g f0 f1 f2) (hk : Kept W W1 S) (hne : ¬ S g) : IsS41 w0 W1 g f0 f1 f2 := by
  obtain ⟨hb, hg⟩ := h
  exact ⟨blk_kept hb hk hne, hg⟩
theorem IsS41.below {w0 W : World} {g : Nat} {f0 : Int} {f1 : Int} {f2 : ByteArray} {W1 : World} (h : IsS41 w0 W g f0 f1 f2) (hw : Below W.heap.size W W1) : IsS41 w0 W1 g f0 f1 f2 := h.grown (grown_of_below hw none) (by simp)
theorem IsS41.alloc {w0 W : World} {g : Nat} {f0 : Int} {f1 : Int} {f2 : ByteArray} (h : IsS41 w0 W g f0 f1 f2) (o : Obj) : IsS41 w0 (W.alloc o) g f0 f1 f2 := h.below (below_alloc (Below.refl _ _) o)
theorem IsS41.drewN {w0 W : World} {g : Nat} {f0 : Int} {f1 : Int} {f2 : ByteArray} (h : IsS41 w0 W g f0 f1 f2) (m : Nat) : IsS41 w0 (W.drewN m) g f0 f1 f2 := h
theorem IsS41.drew {w0 W : World} {g : Nat} {f0 : Int} {f1 : Int} {f2 : ByteArray} (h : IsS41 w0 W g f0 f1 f2) : IsS41 w0 W.drew g f0 f1 f2 := h
theorem IsS41.at_ {w0 W : World} {g : Nat} {f0 : Int} {f1 : Int} {f2 : ByteArray} {w' : World} {m : Nat} (hq : W.drewN m = w') (h : IsS41 w0 W g f0 f1 f2) : IsS41 w0 w' g f0 f1 f2 := by subst hq; exact IsS41.drewN h m
theorem IsS41.apart {w0 W : World} {g : Nat} {f0 : Int} {f1 : Int} {f2 : ByteArray} {α : Type} {d : Kd α} {e : Nat} {base : Nat} {ok : Nat → Prop} {v : Value} {xs : List α} (h : IsS41 w0 W g f0 f1 f2) (ho : d.R e W base ok v xs) (ht : ∀ q, q ∈ e :: d.E → q ≠ 41) : d.R e W base (fun k => ok k ∧ k ≠ g) v xs := by
  obtain ⟨hb, hg⟩ := h
  exact Kd.R_types ho hb ht
theorem IsS41.own_ne {w0 W : World} {g : Nat} {f0 : Int} {f1 : Int} {f2 : ByteArray} {α : Type} {d : Kd α} {e : Nat} {base : Nat} {ok : Nat → Prop} {v : Value} {xs : List α} (h : IsS41 w0 W g f0 f1 f2) (ho : d.R e W base ok v xs) (ht : e ≠ 41) : some g ≠ v.ownBlock := by
  obtain ⟨hb, hg⟩ := h
  exact Kd.R_ne ho hb ht
theorem IsS41.apartQ {w0 W : World} {g : Nat} {f0 : Int} {f1 : Int} {f2 : ByteArray} {α : Type} {d : Kd α} {e : Nat} {base : Nat} {ok : Nat → Prop} {v : Value} {xs : List α} (h : IsS41 w0 W g f0 f1 f2) (ho : d.Q e W base ok v xs) (ht : ∀ q, q ∈ e :: d.E → q ≠ 41) : d.Q e W base (fun k => ok k ∧ k ≠ g) v xs := by
  obtain ⟨hb, hg⟩ := h
  exact Kd.Q_types ho hb ht
theorem IsS41.own_neQ {w0 W : World} {g : Nat} {f0 : Int} {f1 : Int} {f2 : ByteArray} {α : Type} {d : Kd α} {e : Nat} {base : Nat} {ok : Nat → Prop} {v : Value} {xs : List α} (h : IsS41 w0 W g f0 f1 f2) (ho : d.Q e W base ok v xs) (ht : e ≠ 41) : some g ≠ v.ownBlock := by
  obtain ⟨hb, hg⟩ := h
  exact Kd.Q_ne ho hb ht
theorem IsS41.apartS {w0 W : World} {g : Nat} {f0 : Int} {f1 : Int} {f2 : ByteArray} {α : Type} {d : Kd α} {e : Nat} {base : Nat} {ok : Nat → Prop} {v : Value} {xs : List α} (h : IsS41 w0 W g f0 f1 f2) (ho : d.S e W base ok v xs) (ht : ∀ q, q ∈ e :: d.E → q ≠ 41) : d.S e W base (fun k => ok k ∧ k ≠ g) v xs := by
  obtain ⟨hb, hg⟩ := h
  exact Kd.S_types ho hb ht
theorem IsS41.own_neS {w0 W : World} {g : Nat} {f0 : Int} {f1 : Int} {f2 : ByteArray} {α : Type} {d : Kd α} {e : Nat} {base : Nat} {ok : Nat → Prop} {v : Value} {xs : List α} (h : IsS41 w0 W g f0 f1 f2) (ho : d.S e W base ok v xs) (ht : e ≠ 41) : some g ≠ v.ownBlock := by
  obtain ⟨hb, hg⟩ := h
  exact Kd.S_ne ho hb ht
theorem IsS41.lt {w0 W : World} {g : Nat} {f0 : Int} {f1 : Int} {f2 : ByteArray} (h : IsS41 w0 W g f0 f1 f2) : g < W.heap.size := by
  obtain ⟨hb, hg⟩ := h
  exact blk_lt hb
theorem IsS41.ge {w0 W : World} {g : Nat} {f0 : Int} {f1 : Int} {f2 : ByteArray} (h : IsS41 w0 W g f0 f1 f2) : w0.heap.size ≤ g := by
  obtain ⟨hb, hg⟩ := h
  exact hg
theorem IsS41.ne_blk {w0 W : World} {g : Nat} {f0 : Int} {f1 : Int} {f2 : ByteArray} {a : Nat} {cs : Array Value} {t : TypeId} {fr : Nat × Nat} (h : IsS41 w0 W g f0 f1 f2) (hb2 : W.heap[a]? = some (.cells cs t fr)) (ht : t ≠ 41) : g ≠ a := by
  obtain ⟨hb, hg⟩ := h
  rintro rfl
  rw [hb] at hb2
  injection hb2 with hb2
  injection hb2 with _ ht2
  exact ht ht2.symm
theorem IsS41.far {w0 W : World} {g : Nat} {f0 : Int} {f1 : Int} {f2 : ByteArray} {p : Addr} (h : IsS41 w0 W g f0 f1 f2) (hne : g ≠ p.block) (u : Value) : IsS41 w0 (W.setCell p u) g f0 f1 f2 := by
  obtain ⟨hb, hg⟩ := h
  exact ⟨blk_far hb hne u, hg⟩
theorem cellS41_0 {W : World} {g : Nat} {f0 : Int} {f1 : Int} {f2 : ByteArray} (h : W.heap[g]? = some (.cells #[.int .i64 f0, .int .i32 f1, .string f2] 41 (0, 0))) : W.cell? ⟨g, 0, none⟩ = some (.int .i64 f0) := (blk_cell h 0).trans rfl
theorem IsS41.set_0 {w0 W : World} {g : Nat} {f0 : Int} {f1 : Int} {f2 : ByteArray} (h : IsS41 w0 W g f0 f1 f2) (x : Int) : IsS41 w0 (W.setCell ⟨g, 0, none⟩ (.int .i64 x)) g x f1 f2 := by
  obtain ⟨hb, hg⟩ := h
  exact ⟨by simpa using blk_set hb 0 (.int .i64 x), hg⟩
theorem cellS41_1 {W : World} {g : Nat} {f0 : Int} {f1 : Int} {f2 : ByteArray} (h : W.heap[g]? = some (.cells #[.int .i64 f0, .int .i32 f1, .string f2] 41 (0, 0))) : W.cell? ⟨g, 1, none⟩ = some (.int .i32 f1) := (blk_cell h 1).trans rfl
theorem IsS41.set_1 {w0 W : World} {g : Nat} {f0 : Int} {f1 : Int} {f2 : ByteArray} (h : IsS41 w0 W g f0 f1 f2) (x : Int) : IsS41 w0 (W.setCell ⟨g, 1, none⟩ (.int .i32 x)) g f0 x f2 := by
  obtain ⟨hb, hg⟩ := h
  exact ⟨by simpa using blk_set hb 1 (.int .i32 x), hg⟩
theorem cellS41_2 {W : World} {g : Nat} {f0 : Int} {f1 : Int} {f2 : ByteArray} (h : W.heap[g]? = some (.cells #[.int .i64 f0, .int .i32 f1, .string f2] 41 (0, 0))) : W.cell? ⟨g, 2, none⟩ = some (.string f2) := (blk_cell h 2).trans rfl
theorem IsS41.set_2 {w0 W : World} {g : Nat} {f0 : Int} {f1 : Int} {f2 : ByteArray} (h : IsS41 w0 W g f0 f1 f2) (x : ByteArray) : IsS41 w0 (W.setCell ⟨g, 2, none⟩ (.string x)) g f0 f1 x := by
  obtain ⟨hb, hg⟩ := h
  exact ⟨by simpa using blk_set hb 2 (.string x), hg⟩
theorem IsS41.new (w0 W : World) (f0 : Int) (f1 : Int) (f2 : ByteArray) (hB : Below w0.heap.size w0 W) : IsS41 w0 (W.alloc (.cells #[.int .i64 f0, .int .i32 f1, .string f2] 41)) W.heap.size f0 f1 f2 := ⟨by simpa using heap_alloc_new W _, hB.size⟩

/-! ### impl_intStr: function 18 -/
def impl_intStr.f (a0_0 : Int) (a0_1 : Int) (a0_2 : ByteArray) : Option (Int × Int × ByteArray) := some (a0_0, a0_1, a0_2)
set_option maxHeartbeats 8000000 in
set_option maxRecDepth 100000 in
theorem impl_intStr.calls (a0_0 : Int) (a0_1 : Int) (a0_2 : ByteArray) (r1 : Int) (r2 : Int) (r3 : ByteArray) (w0 w : World) (hB : Below w0.heap.size w0 w) (h : impl_intStr.f a0_0 a0_1 a0_2 = some (r1, r2, r3)) :
    Calls Tryd.prog 18 #[.agg #[.int .i64 a0_0, .int .i32 a0_1, .string a0_2]] w fun e w' => ∃ g_ : Nat, e = .returned (.pointer (some ⟨g_, 0, none⟩)) ∧ IsS41 w0 w' g_ r1 r2 r3 ∧ Below w0.heap.size w0 w' ∧ Below w.heap.size w w' := by
  have hu23 := Tryd.underlying23
  have hu41 := Tryd.underlying41
  have HBW := Aside0.mk (Below.refl w.heap.size w)
  have HW0 := Aside0.mk hB.size
  have HB := Aside0.mk hB
  clear hB
  have H : (some (a0_0, a0_1, a0_2)) = some (r1, r2, r3) := h
  clear h
  simp only [Option.some.injEq, Prod.mk.injEq] at H
  obtain ⟨rfl, rfl, rfl⟩ := H
  go_enter Tryd.func18, Tryd.ntmps18
  go_wp2_with (first | ((with_reducible refine gate_dst (N := 1) rfl ?_); refine box_event ?hg (N := 1) ?hd (cs := #[.int .i64 a0_0, .int .i32 a0_1, .string a0_2]) (t := 23) ?hr ?_; (case hd => rfl); (case hg => rfl); (case hr => first | (go_simp; done) | (go_simp; rfl)); intro gb102 hg w2 hbox hb; have n0_ := Aside0.mk (below_step HBW.out hb); have n1_ := Aside0.mk (below_step (by repeat (first | (with_reducible first | exact HB.out | apply below_alloc | apply pw_below_drewN | apply below_drew1) | exact HB.out)) hb); have n2_ := Aside0.mk (hbox); have n3_ := Aside0.mk ((by rw [hg]; exact (below_size (by repeat (first | (with_reducible first | exact HBW.out | apply below_alloc | apply pw_below_drewN | apply below_drew1) | exact HBW.out))) : w.heap.size ≤ gb102)); have n4_ := Aside0.mk ((Nat.le_trans HW0.out (by rw [hg]; exact (below_size (by repeat (first | (with_reducible first | exact HBW.out | apply below_alloc | apply pw_below_drewN | apply below_drew1) | exact HBW.out))) : w.heap.size ≤ gb102) : w0.heap.size ≤ gb102)); clear HBW; clear HB; have HBW := n0_; have HB := n1_; have BK102 := n2_; have GW102 := n3_; have GE102 := n4_; clear n0_ n1_ n2_ n3_ n4_; clear hb hbox hg; have hcz3_0 : w2.cell? ⟨gb102, 0, none⟩ = some (.int .i64 a0_0) := (blk_cell BK102.out 0).trans rfl; have hcz3_1 : w2.cell? ⟨gb102, 1, none⟩ = some (.int .i32 a0_1) := (blk_cell BK102.out 1).trans rfl; have hcz3_2 : w2.cell? ⟨gb102, 2, none⟩ = some (.string a0_2) := (blk_cell BK102.out 2).trans rfl; have hfz3_0 := blk_frozen BK102.out 0; have hfz3_1 := blk_frozen BK102.out 1; have hfz3_2 := blk_frozen BK102.out 2) | ((with_reducible refine gate_dst (N := 10) rfl ?_); refine box_event ?hg (N := 10) ?hd (cs := #[.int .i64 a0_0, .int .i32 a0_1, .string a0_2]) (t := 41) ?hr ?_; (case hd => rfl); (case hg => rfl); (case hr => first | (go_simp; done) | (go_simp; rfl)); intro gb103 hg w4 hbox hb; have n0_ := Aside0.mk (blk_below (g := gb102) (o := .cells #[.int .i64 a0_0, .int .i32 a0_1, .string a0_2] 23 (0, 0)) (by (with_reducible repeat (first | refine blk_drewN ?_ _ | refine blk_drew ?_ | refine blk_alloc ?_ _)); exact BK102.out) hb); have n1_ := Aside0.mk (below_step HBW.out hb); have n2_ := Aside0.mk (below_step (by repeat (first | (with_reducible first | exact HB.out | apply below_alloc | apply pw_below_drewN | apply below_drew1 | refine below_set ?_ GE102.out) | exact HB.out)) hb); have n3_ := Aside0.mk (hbox); have n4_ := Aside0.mk ((by rw [hg]; exact (below_size (by repeat (first | (with_reducible first | exact HBW.out | apply below_alloc | apply pw_below_drewN | apply below_drew1 | refine below_set ?_ GW102.out) | exact HBW.out))) : w.heap.size ≤ gb103)); have n5_ := Aside0.mk ((Nat.le_trans HW0.out (by rw [hg]; exact (below_size (by repeat (first | (with_reducible first | exact HBW.out | apply below_alloc | apply pw_below_drewN | apply below_drew1 | refine below_set ?_ GW102.out) | exact HBW.out))) : w.heap.size ≤ gb103) : w0.heap.size ≤ gb103)); have n6_ := Aside0.mk ((by rw [hg]; exact Nat.ne_of_lt (blk_lt (g := gb102) (o := .cells #[.int .i64 a0_0, .int .i32 a0_1, .string a0_2] 23 (0, 0)) (by (with_reducible repeat (first | refine blk_drewN ?_ _ | refine blk_drew ?_ | refine blk_alloc ?_ _)); exact BK102.out)) : gb102 ≠ gb103)); have n7_ := Aside0.mk ((by rw [hg]; exact Nat.ne_of_gt (blk_lt (g := gb102) (o := .cells #[.int .i64 a0_0, .int .i32 a0_1, .string a0_2] 23 (0, 0)) (by (with_reducible repeat (first | refine blk_drewN ?_ _ | refine blk_drew ?_ | refine blk_alloc ?_ _)); exact BK102.out)) : gb103 ≠ gb102)); clear BK102; clear HBW; clear HB; have BK102 := n0_; have HBW := n1_; have HB := n2_; have BK103 := n3_; have GW103 := n4_; have GE103 := n5_; have NB102_103 := n6_; have NB103_102 := n7_; clear n0_ n1_ n2_ n3_ n4_ n5_ n6_ n7_; clear hb hbox hg))
  go_ret
  exact ⟨_, rfl, (show IsS41 w0 _ gb103 a0_0 a0_1 a0_2 from ⟨by (with_reducible repeat (first | refine blk_drewN ?_ _ | refine blk_drew ?_ | refine blk_alloc ?_ _)); exact BK103.out, GE103.out⟩), by repeat (first | (with_reducible first | exact HB.out | apply below_alloc | apply pw_below_drewN | apply below_drew1 | refine below_set ?_ GE102.out | refine below_set ?_ GE103.out) | exact HB.out), by repeat (first | (with_reducible first | exact HBW.out | apply below_alloc | apply pw_below_drewN | apply below_drew1 | refine below_set ?_ GW102.out | refine below_set ?_ GW103.out) | exact HBW.out)⟩

-- NOT PRINTED: function 48 (stringslite_Clone)

-- NOT PRINTED: function 40 (strconv_syntaxError)

-- NOT PRINTED: function 41 (strconv_rangeError)

-- NOT PRINTED: function 49 (errors_New)

-- NOT PRINTED: function 53 (strconv_small)

-- NOT PRINTED: function 57 (strconv_log10Pow2)

-- NOT PRINTED: function 58 (bits_Len64)

-- NOT PRINTED: function 59 (strconv_bool2_int)

-- NOT PRINTED: function 54 (strconv_numDigits)

-- NOT PRINTED: function 55 (strconv_formatBase10)

-- NOT PRINTED: function 60 (strconv_isPowerOfTwo)

-- NOT PRINTED: function 62 (bits_TrailingZeros32)

-- NOT PRINTED: function 63 (bits_TrailingZeros64)

-- NOT PRINTED: function 61 (bits_TrailingZeros)

-- NOT PRINTED: function 56 (strconv_formatBits)

-- NOT PRINTED: function 52 (strconv_FormatInt)

-- NOT PRINTED: function 51 (strconv_Itoa_51)

-- NOT PRINTED: function 50 (strconv_Itoa_50)

-- NOT PRINTED: function 42 (strconv_baseError)

-- NOT PRINTED: function 43 (strconv_bitSizeError)

-- NOT PRINTED: function 34 (strconv_toError)

-- NOT PRINTED: function 46 (strconv_lower)

-- NOT PRINTED: function 47 (strconv_underscoreOK)

-- NOT PRINTED: function 39 (strconv_ParseUint)

-- NOT PRINTED: function 33 (strconv_ParseInt)

-- NOT PRINTED: function 35 (strconv_Atoi_35)

-- NOT PRINTED: function 27 (strconv_Atoi_27)

-- NOT PRINTED: function 19 (intstr_IntOrString_IntValue)

/-! ### impl_IntStrValue: function 10 -/
/-- What Atoi tells beside its error. -/
def atoiV (s : ByteArray) : Int := match Lib.atoiAll s.data.toList with | .ok v => v | .range => Lib.atoiSat s.data.toList | _ => 0
theorem atoi_calls (a0 : ByteArray) (w : World) (hs : a0.size ≤ 140737488351232) (hV : Vars.Vars w) :
    Calls Tryd.prog 27 #[.string a0] w fun e w' => ∃ p, e = .returned (.tuple #[.int .i64 (atoiV a0), p]) ∧ Below w.heap.size w w' := by
  obtain ⟨⟨e0, hc0, he0⟩, ⟨e1, hc1, he1⟩⟩ := hV
  unfold atoiV
  cases hq : Lib.atoiAll a0.data.toList with
  | ok v =>
    refine (Tryd.strconv_Atoi_ok a0 (by omega) v hq _).mono ?_
    rintro e w1 ⟨rfl, hW⟩
    refine ⟨_, rfl, ?_⟩
    rcases hW with rfl | ⟨t, rfl⟩
    · exact Below.refl _ _
    · exact Lib.bytesWorld_below _ _ _
  | range =>
    refine (Tryd.strconv_Atoi_range a0 (by omega) hq e1 _ hc1 he1).mono ?_
    rintro e w1 ⟨N, rfl, _, _, hb⟩
    exact ⟨_, rfl, hb⟩
  | _ =>
    refine (Tryd.strconv_Atoi_syntax a0 (by omega) ⟨(fun _ hh => nomatch (hq.symm.trans hh)), (fun hh => nomatch (hq.symm.trans hh))⟩ e0 _ hc0 he0).mono ?_
    rintro e w1 ⟨N, rfl, _, _, hb⟩
    exact ⟨_, rfl, hb⟩
theorem intValue_calls (t n : Int) (s : ByteArray) (g : Nat) (w0 w : World) (hs : s.size ≤ 140737488351232) (hS : IsS41 w0 w g t n s) (hV : Vars.Vars w) :
    Calls Tryd.prog 19 #[.pointer (some ⟨g, 0, none⟩)] w fun e w' => e = .returned (.int .i64 (if t = 1 then atoiV s else wrap64 n)) ∧ Below w.heap.size w w' := by
  have f0 : w.cell? ⟨g, 0, none⟩ = some (.int .i64 t) := cellS41_0 hS.1
  have f1 : w.cell? ⟨g, 1, none⟩ = some (.int .i32 n) := cellS41_1 hS.1
  have f2 : w.cell? ⟨g, 2, none⟩ = some (.string s) := cellS41_2 hS.1
  by_cases ht : t = 1
  · rw [if_pos ht]
    have c0 : (t == 1) = true := beq_iff_eq.mpr ht
    clear ht
    go_enter Tryd.func19, Tryd.ntmps19
    go_wp2_with fail
    (with_reducible refine (atoi_calls s w hs hV).mono ?_)
    rintro e w1 ⟨p, rfl, hb⟩
    go_wp2_with fail
    go_ret
    exact ⟨rfl, hb⟩
  · rw [if_neg ht]
    have c0 : (t == 1) = false := beq_eq_false_iff_ne.mpr ht
    clear ht
    go_enter Tryd.func19, Tryd.ntmps19
    go_wp2_with fail
    go_ret
    exact ⟨rfl, Below.refl _ _⟩
def impl_IntStrValue.f (_ : Nat) (a0_0 : Int) (a0_1 : Int) (a0_2 : ByteArray) : Option Int := if a0_2.size ≤ 140737488351232 then some (if a0_0 = 1 then atoiV a0_2 else wrap64 a0_1) else none
theorem impl_IntStrValue.mono : ∀ a0 a1 a2 k, LeO (impl_IntStrValue.f k a0 a1 a2) (impl_IntStrValue.f (k + 1) a0 a1 a2) := by
  intro a0 a1 a2 k
  exact LeO.refl _
theorem impl_IntStrValue.calls (k : Nat) (a0_0 : Int) (a0_1 : Int) (a0_2 : ByteArray) (r : Int) (w : World) (h : impl_IntStrValue.f k a0_0 a0_1 a0_2 = some r) (hV : Vars.Vars w := by first | assumption | exact Vars.Vars.below hV (by repeat (first | exact HB.out | exact HB | exact Below.refl _ _ | apply below_alloc | apply pw_below_drewN | apply below_drew1))) :
    Calls Tryd.prog 10 #[.agg #[.int .i64 a0_0, .int .i32 a0_1, .string a0_2]] w fun e w' => e = .returned (.int .i64 r) ∧ Below w.heap.size w w' := by
  unfold impl_IntStrValue.f at h
  by_cases hs : a0_2.size ≤ 140737488351232
  · rw [if_pos hs] at h
    obtain rfl := Option.some.inj h
    clear h
    have HB0 : Below w.heap.size w (w.alloc (.cells #[.int .i64 a0_0, .int .i32 a0_1, .string a0_2] 23)) := below_alloc (Below.refl _ _) _
    go_enter Tryd.func10, Tryd.ntmps10
    go_wp2_with fail
    (with_reducible refine (impl_intStr.calls a0_0 a0_1 a0_2 _ _ _ w _ HB0 rfl).mono ?_)
    rintro e w1 ⟨g, rfl, hS, hB1, hB2⟩
    go_wp2_with fail
    (with_reducible refine (intValue_calls a0_0 a0_1 a0_2 g w w1 hs hS (hV.below hB1)).mono ?_)
    rintro e w2 ⟨rfl, hb⟩
    go_wp2_with fail
    all_goals go_ret
    all_goals exact ⟨by simp [*], hB1.trans (hb.mono hB1.size)⟩
  · rw [if_neg hs] at h; cases h

end Go.Proofs.YtmkpkpkcoieeiaaDoor.XFnIntStrValue
