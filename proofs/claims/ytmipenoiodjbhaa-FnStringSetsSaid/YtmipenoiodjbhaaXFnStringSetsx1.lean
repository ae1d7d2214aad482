/- A text of this session: the functions of the law FnStringSets, by a program that calls the kit's print and lays this session's own contracts of single functions beside. -/
import Derived.Test.YtmipenoiodjbhaaXFnStringSetsx0
namespace Go.Proofs.Ytmipenoiodjbhaa.XFnStringSets
open Go.RowKit Go.Proofs.YtmipenoiodjbhaaW.PrintWords Go.Proofs.YtmipenoiodjbhaaW.PrintLast Go.Proofs.YtmipenoiodjbhaaW.PrintMore
attribute [local go_sem] max2_int min2_int max_two min_two max_three min_three max_four min_four   -- for this text's walks alone
set_option linter.unusedVariables false
set_option linter.unusedSimpArgs false

/-! ### laws_zzFits4: function 13 -/
def laws_zzFits4.l0 : Nat → List ByteArray → Int → Int → Option (Bool)
  | 0, _, _, _ => none
  | k + 1, x8, x9, x10 => if x10 < x9 then (if 0 ≤ x10 then (if x10 < (x8.length : Int) then (if ((rdOf ByteArray.empty x8 x10).size : Int) > 2147483647 then (some false) else (laws_zzFits4.l0 k x8 x9 (wrap64 (x10 + 1)))) else (none)) else (none)) else (some true)
def laws_zzFits4.f (k : Nat) (l0 : List ByteArray) : Option (Bool) := if (l0.length : Int) > 2147483647 then (some false) else (laws_zzFits4.l0 k l0 (l0.length : Int) 0)
theorem laws_zzFits4.mono_l : ∀ k, (∀ y0 y1 y2, LeO (laws_zzFits4.l0 k y0 y1 y2) (laws_zzFits4.l0 (k + 1) y0 y1 y2))
  | 0 => fun _ _ _ r h => by simp [laws_zzFits4.l0] at h
  | k + 1 => by
    have ih0 := laws_zzFits4.mono_l k
    · intro y0 y1 y2
      unfold laws_zzFits4.l0
      repeat' first
      | (with_reducible exact ih0 _ _ _)
      | (with_reducible exact LeO.refl _)
      | (with_reducible exact LeO.none _)
      | (with_reducible refine LeO.ite ?_ ?_)
      | (with_reducible refine LeO.bind ?_ (fun _ => ?_))
      | exact ih0 _ _ _
      | exact LeO.none _
      | refine LeO.ite ?_ ?_
      | refine LeO.bind ?_ (fun _ => ?_)
theorem laws_zzFits4.mono : ∀ a0 k, LeO (laws_zzFits4.f k a0) (laws_zzFits4.f (k + 1) a0) := by
  intro a0 k
  have ih0 := laws_zzFits4.mono_l k
  unfold laws_zzFits4.f
  repeat' first
      | (with_reducible exact ih0 _ _ _)
      | (with_reducible exact LeO.refl _)
      | (with_reducible exact LeO.none _)
      | (with_reducible refine LeO.ite ?_ ?_)
      | (with_reducible refine LeO.bind ?_ (fun _ => ?_))
      | exact ih0 _ _ _
      | exact LeO.none _
      | refine LeO.ite ?_ ?_
      | refine LeO.bind ?_ (fun _ => ?_)
set_option maxHeartbeats 8000000 in
set_option maxRecDepth 100000 in
theorem laws_zzFits4.calls (k : Nat) (A0 : Option Addr) (c0 : Nat) (l0 : List ByteArray) (r : Bool) (w : World) (hr0 : Kd.C Kd.string w A0 l0.length l0) (hc0 : l0.length ≤ c0) (h : laws_zzFits4.f k l0 = some r) :
    Calls Try.prog 13 #[.slice A0 l0.length c0] w fun e w' => e = .returned (.bool r) ∧ Drawn0 w w' := by
  have HR0 := Aside0.mk hr0
  have HC0 := Aside0.mk hc0
  clear hr0 hc0
  have H : (if (l0.length : Int) > 2147483647 then (some false) else (laws_zzFits4.l0 k l0 (l0.length : Int) 0)) = some r := h
  clear h
  by_cases c2 : (l0.length : Int) > 2147483647
  · rw [if_pos c2] at H
    have c2b0 : decide (2147483647 < (l0.length : Int)) = true := decide_eq_true c2
    have c2b1 : decide (2147483647 < l0.length) = true := decide_eq_true (by omega)
    clear c2
    obtain rfl := Option.some.inj H
    go_enter Try.func13, Try.ntmps13
    go_wp2
    go_ret
    exact ⟨by first | rfl | (simp; done) | (simp [*]; done), by repeat (first | exact Drawn0.refl _ | apply Drawn0.step)⟩
  · rw [if_neg c2] at H
    have c2b0 : decide (2147483647 < (l0.length : Int)) = false := decide_eq_false c2
    have c2b1 : decide (2147483647 < l0.length) = false := decide_eq_false (by omega)
    clear c2
    have H' := Aside0.mk H
    clear H
    go_enter Try.func13, Try.ntmps13
    go_wp2
    go_loopg [10] k (fun kq v10 w' => ∃ (x10_1 : Int), v10 = .int .i64 x10_1 ∧ Aside0 (laws_zzFits4.l0 kq l0 (l0.length : Int) x10_1 = some r) ∧ Aside0 (kq ≤ k) ∧ Drawn0 w w')
    case atStart => exact ⟨(0), (by first | rfl | (simp; done) | (simp [*]; done)), H', ⟨Nat.le_refl _⟩, by repeat (first | exact Drawn0.refl _ | apply Drawn0.step)⟩
    case round =>
      clear H'
      try clear c1
      try clear c2
      try clear c2b0
      try clear c2b1
      try clear p2
      obtain ⟨x10_1, rfl, HA, HK1, ⟨m1, rfl⟩⟩ := hrel
      cases gk with
      | zero => exact absurd HA.out (by simp [laws_zzFits4.l0])
      | succ k1 =>
        have H := HA.out
        clear HA
        simp only [laws_zzFits4.l0] at H
        by_cases c3 : x10_1 < (l0.length : Int)
        · rw [if_pos c3] at H
          have c3b0 : decide (x10_1 < (l0.length : Int)) = true := decide_eq_true c3
          clear c3
          by_cases c4 : 0 ≤ x10_1
          · rw [if_pos c4] at H
            have c4b0 : decide (0 ≤ x10_1) = true := decide_eq_true c4
            clear c4
            by_cases c5 : x10_1 < (l0.length : Int)
            · rw [if_pos c5] at H
              have c5b0 : decide (x10_1 < (l0.length : Int)) = true := decide_eq_true c5
              clear c5
              by_cases c6 : ((rdOf ByteArray.empty l0 x10_1).size : Int) > 2147483647
              · rw [if_pos c6] at H
                have c6b0 : decide (2147483647 < ((rdOf ByteArray.empty l0 x10_1).size : Int)) = true := decide_eq_true c6
                have c6b1 : decide (2147483647 < (rdOf ByteArray.empty l0 x10_1).size) = true := decide_eq_true (by omega)
                clear c6
                obtain rfl := Option.some.inj H
                have p101 : 0 ≤ (x10_1 : Int) := of_decide_eq_true (by first | (with_reducible assumption) | assumption)
                have q101 : x10_1 < (l0.length : Int) := of_decide_eq_true (by first | (with_reducible assumption) | assumption)
                obtain ⟨ad101, e101, hx101_0⟩ := Kd.at_string HR0.out x10_1 p101 q101
                cases e101
                replace p101 := eq_true p101
                replace q101 := eq_true q101
                go_wp2
                go_ret
                exact ⟨by first | rfl | (simp; done) | (simp [*]; done), by repeat (first | exact Drawn0.refl _ | apply Drawn0.step)⟩
              · rw [if_neg c6] at H
                have c6b0 : decide (2147483647 < ((rdOf ByteArray.empty l0 x10_1).size : Int)) = false := decide_eq_false c6
                have c6b1 : decide (2147483647 < (rdOf ByteArray.empty l0 x10_1).size) = false := decide_eq_false (by omega)
                clear c6
                have H' := Aside0.mk H
                clear H
                have p101 : 0 ≤ (x10_1 : Int) := of_decide_eq_true (by first | (with_reducible assumption) | assumption)
                have q101 : x10_1 < (l0.length : Int) := of_decide_eq_true (by first | (with_reducible assumption) | assumption)
                obtain ⟨ad101, e101, hx101_0⟩ := Kd.at_string HR0.out x10_1 p101 q101
                cases e101
                replace p101 := eq_true p101
                replace q101 := eq_true q101
                go_wp2
                go_roundg k1
                case measure => have := HK1.out; omega
                case rel => exact ⟨(wrap64 (x10_1 + 1)), (by first | rfl | (simp; done) | (simp [*]; done)), H', ⟨by have := HK1.out; omega⟩, by repeat (first | exact Drawn0.refl _ | apply Drawn0.step)⟩
            · rw [if_neg c5] at H
              exact absurd H (by simp)
          · rw [if_neg c4] at H
            exact absurd H (by simp)
        · rw [if_neg c3] at H
          have c3b0 : decide (x10_1 < (l0.length : Int)) = false := decide_eq_false c3
          clear c3
          obtain rfl := Option.some.inj H
          go_wp2
          go_ret
          exact ⟨by first | rfl | (simp; done) | (simp [*]; done), by repeat (first | exact Drawn0.refl _ | apply Drawn0.step)⟩

/-! ### spec_keyIn_string: function 42 -/
def spec_keyIn_string.l0 : Nat → List ByteArray → ByteArray → Int → Option (Bool)
  | 0, _, _, _ => none
  | k + 1, x0, x1, x5 => if x5 < (x0.length : Int) then (if 0 ≤ x5 then (if (rdOf ByteArray.empty x0 x5).toList = x1.toList then (some true) else (spec_keyIn_string.l0 k x0 x1 (wrap64 (x5 + 1)))) else (none)) else (some false)
def spec_keyIn_string.f (k : Nat) (l0 : List ByteArray) (a1 : ByteArray) : Option (Bool) := spec_keyIn_string.l0 k l0 a1 0
theorem spec_keyIn_string.mono_l : ∀ k, (∀ y0 y1 y2, LeO (spec_keyIn_string.l0 k y0 y1 y2) (spec_keyIn_string.l0 (k + 1) y0 y1 y2))
  | 0 => fun _ _ _ r h => by simp [spec_keyIn_string.l0] at h
  | k + 1 => by
    have ih0 := spec_keyIn_string.mono_l k
    · intro y0 y1 y2
      unfold spec_keyIn_string.l0
      repeat' first
      | (with_reducible exact ih0 _ _ _)
      | (with_reducible exact LeO.refl _)
      | (with_reducible exact LeO.none _)
      | (with_reducible refine LeO.ite ?_ ?_)
      | (with_reducible refine LeO.bind ?_ (fun _ => ?_))
      | exact ih0 _ _ _
      | exact LeO.none _
      | refine LeO.ite ?_ ?_
      | refine LeO.bind ?_ (fun _ => ?_)
theorem spec_keyIn_string.mono : ∀ a0 a1 k, LeO (spec_keyIn_string.f k a0 a1) (spec_keyIn_string.f (k + 1) a0 a1) := by
  intro a0 a1 k
  have ih0 := spec_keyIn_string.mono_l k
  unfold spec_keyIn_string.f
  repeat' first
      | (with_reducible exact ih0 _ _ _)
      | (with_reducible exact LeO.refl _)
      | (with_reducible exact LeO.none _)
      | (with_reducible refine LeO.ite ?_ ?_)
      | (with_reducible refine LeO.bind ?_ (fun _ => ?_))
      | exact ih0 _ _ _
      | exact LeO.none _
      | refine LeO.ite ?_ ?_
      | refine LeO.bind ?_ (fun _ => ?_)
set_option maxHeartbeats 8000000 in
set_option maxRecDepth 100000 in
theorem spec_keyIn_string.calls (k : Nat) (A0 : Option Addr) (c0 : Nat) (l0 : List ByteArray) (a1 : ByteArray) (r : Bool) (w : World) (hr0 : Kd.C Kd.string w A0 l0.length l0) (hc0 : l0.length ≤ c0) (h : spec_keyIn_string.f k l0 a1 = some r) :
    Calls Try.prog 42 #[.slice A0 l0.length c0, .string a1] w fun e w' => e = .returned (.bool r) ∧ Drawn0 w w' := by
  have HR0 := Aside0.mk hr0
  have HC0 := Aside0.mk hc0
  clear hr0 hc0
  have H : (spec_keyIn_string.l0 k l0 a1 0) = some r := h
  clear h
  have H' := Aside0.mk H
  clear H
  go_enter Try.func42, Try.ntmps42
  go_wp2
  go_loopg [5] k (fun kq v5 w' => ∃ (x5_1 : Int), v5 = .int .i64 x5_1 ∧ Aside0 (spec_keyIn_string.l0 kq l0 a1 x5_1 = some r) ∧ Aside0 (kq ≤ k) ∧ Drawn0 w w')
  case atStart => exact ⟨(0), (by first | rfl | (simp; done) | (simp [*]; done)), H', ⟨Nat.le_refl _⟩, by repeat (first | exact Drawn0.refl _ | apply Drawn0.step)⟩
  case round =>
    clear H'
    try clear p2
    obtain ⟨x5_1, rfl, HA, HK1, ⟨m1, rfl⟩⟩ := hrel
    cases gk with
    | zero => exact absurd HA.out (by simp [spec_keyIn_string.l0])
    | succ k1 =>
      have H := HA.out
      clear HA
      simp only [spec_keyIn_string.l0] at H
      by_cases c3 : x5_1 < (l0.length : Int)
      · rw [if_pos c3] at H
        have c3b0 : decide (x5_1 < (l0.length : Int)) = true := decide_eq_true c3
        clear c3
        by_cases c4 : 0 ≤ x5_1
        · rw [if_pos c4] at H
          have c4b0 : decide (0 ≤ x5_1) = true := decide_eq_true c4
          clear c4
          by_cases c5 : (rdOf ByteArray.empty l0 x5_1).toList = a1.toList
          · rw [if_pos c5] at H
            have c5b0 : ((rdOf ByteArray.empty l0 x5_1).toList == a1.toList) = true := beq_iff_eq.mpr c5
            have c5b1 : ((rdOf ByteArray.empty l0 x5_1).toList != a1.toList) = false := bne_eq_false_iff_eq.mpr c5
            clear c5
            obtain rfl := Option.some.inj H
            have p102 : 0 ≤ (x5_1 : Int) := of_decide_eq_true (by first | (with_reducible assumption) | assumption)
            have q102 : x5_1 < (l0.length : Int) := of_decide_eq_true (by first | (with_reducible assumption) | assumption)
            obtain ⟨ad102, e102, hx102_0⟩ := Kd.at_string HR0.out x5_1 p102 q102
            cases e102
            replace p102 := eq_true p102
            replace q102 := eq_true q102
            go_wp2
            go_ret
            exact ⟨by first | rfl | (simp; done) | (simp [*]; done), by repeat (first | exact Drawn0.refl _ | apply Drawn0.step)⟩
          · rw [if_neg c5] at H
            have c5b0 : ((rdOf ByteArray.empty l0 x5_1).toList == a1.toList) = false := beq_eq_false_iff_ne.mpr c5
            have c5b1 : ((rdOf ByteArray.empty l0 x5_1).toList != a1.toList) = true := bne_iff_ne.mpr c5
            have H' := Aside0.mk H
            clear H
            have p102 : 0 ≤ (x5_1 : Int) := of_decide_eq_true (by first | (with_reducible assumption) | assumption)
            have q102 : x5_1 < (l0.length : Int) := of_decide_eq_true (by first | (with_reducible assumption) | assumption)
            obtain ⟨ad102, e102, hx102_0⟩ := Kd.at_string HR0.out x5_1 p102 q102
            cases e102
            replace p102 := eq_true p102
            replace q102 := eq_true q102
            go_wp2
            go_roundg k1
            case measure => have := HK1.out; omega
            case rel => exact ⟨(wrap64 (x5_1 + 1)), (by first | rfl | (simp; done) | (simp [*]; done)), H', ⟨by have := HK1.out; omega⟩, by repeat (first | exact Drawn0.refl _ | apply Drawn0.step)⟩
        · rw [if_neg c4] at H
          exact absurd H (by simp)
      · rw [if_neg c3] at H
        have c3b0 : decide (x5_1 < (l0.length : Int)) = false := decide_eq_false c3
        clear c3
        obtain rfl := Option.some.inj H
        go_wp2
        go_ret
        exact ⟨by first | rfl | (simp; done) | (simp [*]; done), by repeat (first | exact Drawn0.refl _ | apply Drawn0.step)⟩

/-! ### spec_Keys_string: function 18 -/
mutual
def spec_Keys_string.l0 : Nat → List ByteArray → List ByteArray → Int → Option (List ByteArray)
  | 0, _, _, _ => none
  | k + 1, x0, x3, x4 => if x4 < (x0.length : Int) then (if 0 ≤ x4 then ((spec_keyIn_string.f k x3 (rdOf ByteArray.empty x0 x4)).bind fun t104 => (if t104 = true then (spec_Keys_string.l0 k x0 x3 (wrap64 (x4 + 1))) else (spec_Keys_string.l1 k x0 x3 x4 0))) else (none)) else (some x3)
def spec_Keys_string.l1 : Nat → List ByteArray → List ByteArray → Int → Int → Option (List ByteArray)
  | 0, _, _, _, _ => none
  | k + 1, x0, x3, x4, x5 => if x5 < (x3.length : Int) then (if 0 ≤ x5 then (if 0 ≤ x4 then (if x4 < (x0.length : Int) then (if (Op.bytesLess ((rdOf ByteArray.empty x3 x5).toList) ((rdOf ByteArray.empty x0 x4).toList)) = true then (spec_Keys_string.l1 k x0 x3 x4 (wrap64 (x5 + 1))) else ((some (([] : List ByteArray) : List ByteArray)).bind fun y107 => (if x5 ≤ (x3.length : Int) then ((some (x3.take (x5 : Int).toNat : List ByteArray)).bind fun y110 => (if y107.length + y110.length < 8796093022208 then ((some (y107 ++ y110 : List ByteArray)).bind fun y114 => (if y114.length < 8796093022208 then ((some (y114 ++ [rdOf ByteArray.empty x0 x4] : List ByteArray)).bind fun y118 => ((some (x3.drop (x5 : Int).toNat : List ByteArray)).bind fun y121 => (if y118.length + y121.length < 8796093022208 then (spec_Keys_string.l0 k x0 (y118 ++ y121) (wrap64 (x4 + 1))) else (none)))) else (none))) else (none))) else (none)))) else (none)) else (none)) else (none)) else ((some (([] : List ByteArray) : List ByteArray)).bind fun y128 => (if 0 ≤ x5 then (if x5 ≤ (x3.length : Int) then ((some (x3.take (x5 : Int).toNat : List ByteArray)).bind fun y131 => (if y128.length + y131.length < 8796093022208 then ((some (y128 ++ y131 : List ByteArray)).bind fun y135 => (if 0 ≤ x4 then (if x4 < (x0.length : Int) then (if y135.length < 8796093022208 then ((some (y135 ++ [rdOf ByteArray.empty x0 x4] : List ByteArray)).bind fun y139 => ((some (x3.drop (x5 : Int).toNat : List ByteArray)).bind fun y142 => (if y139.length + y142.length < 8796093022208 then (spec_Keys_string.l0 k x0 (y139 ++ y142) (wrap64 (x4 + 1))) else (none)))) else (none)) else (none)) else (none))) else (none))) else (none)) else (none)))
end
def spec_Keys_string.f (k : Nat) (l0 : List ByteArray) : Option (List ByteArray) := spec_Keys_string.l0 k l0 ([] : List ByteArray) 0
theorem spec_Keys_string.mono_l : ∀ k, (∀ y0 y1 y2, LeO (spec_Keys_string.l0 k y0 y1 y2) (spec_Keys_string.l0 (k + 1) y0 y1 y2)) ∧ (∀ y0 y1 y2 y3, LeO (spec_Keys_string.l1 k y0 y1 y2 y3) (spec_Keys_string.l1 (k + 1) y0 y1 y2 y3))
  | 0 => ⟨fun _ _ _ r h => by simp [spec_Keys_string.l0] at h, fun _ _ _ _ r h => by simp [spec_Keys_string.l1] at h⟩
  | k + 1 => by
    obtain ⟨ih0, ih1⟩ := spec_Keys_string.mono_l k
    refine ⟨?_, ?_⟩
    · intro y0 y1 y2
      unfold spec_Keys_string.l0
      repeat' first
      | (with_reducible exact ih0 _ _ _)
      | (with_reducible exact ih1 _ _ _ _)
      | (with_reducible exact spec_keyIn_string.mono _ _ _)
      | (with_reducible exact LeO.refl _)
      | (with_reducible exact LeO.none _)
      | (with_reducible refine LeO.ite ?_ ?_)
      | (with_reducible refine LeO.bind ?_ (fun _ => ?_))
      | exact ih0 _ _ _
      | exact ih1 _ _ _ _
      | exact spec_keyIn_string.mono _ _ _
      | exact LeO.none _
      | refine LeO.ite ?_ ?_
      | refine LeO.bind ?_ (fun _ => ?_)
    · intro y0 y1 y2 y3
      unfold spec_Keys_string.l1
      repeat' first
      | (with_reducible exact ih0 _ _ _)
      | (with_reducible exact ih1 _ _ _ _)
      | (with_reducible exact spec_keyIn_string.mono _ _ _)
      | (with_reducible exact LeO.refl _)
      | (with_reducible exact LeO.none _)
      | (with_reducible refine LeO.ite ?_ ?_)
      | (with_reducible refine LeO.bind ?_ (fun _ => ?_))
      | exact ih0 _ _ _
      | exact ih1 _ _ _ _
      | exact spec_keyIn_string.mono _ _ _
      | exact LeO.none _
      | refine LeO.ite ?_ ?_
      | refine LeO.bind ?_ (fun _ => ?_)
theorem spec_Keys_string.mono : ∀ a0 k, LeO (spec_Keys_string.f k a0) (spec_Keys_string.f (k + 1) a0) := by
  intro a0 k
  obtain ⟨ih0, ih1⟩ := spec_Keys_string.mono_l k
  unfold spec_Keys_string.f
  repeat' first
      | (with_reducible exact ih0 _ _ _)
      | (with_reducible exact ih1 _ _ _ _)
      | (with_reducible exact spec_keyIn_string.mono _ _ _)
      | (with_reducible exact LeO.refl _)
      | (with_reducible exact LeO.none _)
      | (with_reducible refine LeO.ite ?_ ?_)
      | (with_reducible refine LeO.bind ?_ (fun _ => ?_))
      | exact ih0 _ _ _
      | exact ih1 _ _ _ _
      | exact spec_keyIn_string.mono _ _ _
      | exact LeO.none _
      | refine LeO.ite ?_ ?_
      | refine LeO.bind ?_ (fun _ => ?_)
set_option maxHeartbeats 8000000 in
set_option maxRecDepth 100000 in
theorem spec_Keys_string.calls (k : Nat) (A0 : Option Addr) (c0 : Nat) (l0 : List ByteArray) (r : List ByteArray) (w : World) (hr0 : Kd.C Kd.string w A0 l0.length l0) (hc0 : l0.length ≤ c0) (h : spec_Keys_string.f k l0 = some r) :
    Calls Try.prog 18 #[.slice A0 l0.length c0] w fun e w' => ∃ v0_ : Value, e = .returned (v0_) ∧ Kd.R Kd.string 9 w' w.heap.size (fun _ => True) v0_ r ∧ Below w.heap.size w w' := by
  have HR0 := Aside0.mk hr0
  have HC0 := Aside0.mk hc0
  clear hr0 hc0
  have HB := Aside0.mk (Below.refl w.heap.size w)
  have H : (spec_Keys_string.l0 k l0 ([] : List ByteArray) 0) = some r := h
  clear h
  have H' := Aside0.mk H
  clear H
  go_enter Try.func18, Try.ntmps18
  go_wp2
  repeat (go_quiet (fail); try go_wp2)
  go_loopg [3, 4] k (fun kq v3 v4 w' => ∃ (x3_1 : List ByteArray) (x4_1 : Int), v4 = .int .i64 x4_1 ∧ Aside0 (spec_Keys_string.l0 kq l0 x3_1 x4_1 = some r) ∧ Aside0 (kq ≤ k) ∧ Aside0 (Kd.R Kd.string 9 w' w.heap.size (fun _ => True) v3 x3_1) ∧ Aside0 (Below w.heap.size w w'))
  case atStart => exact ⟨(([] : List ByteArray)), (0), (by first | rfl | (simp; done) | (simp [*]; done)), H', ⟨Nat.le_refl _⟩, ⟨by first | exact Kd.R_nil _ _ _ _ _ | exact Kd.N_nil _ _ _ _ _ | exact Kd.V_nil _ _ _ _ _ | exact Kd.Q_nil _ _ _ _ _ | exact Kd.S_nil _ _ _ _ _⟩, ⟨by repeat (first | (with_reducible first | exact HB.out | apply below_alloc | apply pw_below_drewN | apply below_drew1) | exact HB.out)⟩⟩
  case round =>
    clear H'
    try clear c1
    obtain ⟨x3_1, x4_1, rfl, HA, HK1, HO_3, HB⟩ := hrel
    cases gk with
    | zero => exact absurd HA.out (by simp [spec_Keys_string.l0])
    | succ k1 =>
      have H := HA.out
      clear HA
      simp only [spec_Keys_string.l0] at H
      by_cases c2 : x4_1 < (l0.length : Int)
      · rw [if_pos c2] at H
        have c2b0 : decide (x4_1 < (l0.length : Int)) = true := decide_eq_true c2
        clear c2
        by_cases c3 : 0 ≤ x4_1
        · rw [if_pos c3] at H
          have c3b0 : decide (0 ≤ x4_1) = true := decide_eq_true c3
          clear c3
          replace H := Option.bind_eq_some_iff.mp H
          obtain ⟨t104, A40, H⟩ := H
          replace H : (if t104 = true then (spec_Keys_string.l0 k1 l0 x3_1 (wrap64 (x4_1 + 1))) else (spec_Keys_string.l1 k1 l0 x3_1 x4_1 0)) = some r := H
          have A4 := Aside0.mk A40
          clear A40
          by_cases c5 : t104 = true
          · subst c5
            have H1 : (spec_Keys_string.l0 k1 l0 x3_1 (wrap64 (x4_1 + 1))) = some r := by rw [if_pos rfl] at H; exact H
            clear H
            have H := H1
            clear H1
            have H' := Aside0.mk H
            clear H
            have p103 : 0 ≤ (x4_1 : Int) := of_decide_eq_true (by first | (with_reducible assumption) | assumption)
            have q103 : x4_1 < (l0.length : Int) := of_decide_eq_true (by first | (with_reducible assumption) | assumption)
            obtain ⟨ad103, e103, hx103_0⟩ := Kd.at_string HR0.out x4_1 p103 q103
            cases e103
            replace hx103_0 := (HB.out.cell (World.block_lt_of_cell? w _ hx103_0)).trans hx103_0
            replace p103 := eq_true p103
            replace q103 := eq_true q103
            obtain ⟨Ao6, co6, eo6⟩ := Kd.R_slice HO_3.out
            subst eo6
            go_wp2_with (first | (go_at_call 42; (with_reducible refine (spec_keyIn_string.calls k1 _ _ x3_1 (rdOf ByteArray.empty l0 x4_1) true _ ?side1 ?side2 A4.out).mono ?_); (case side1 => repeat (first | exact (Kd.R_reads' HO_3.out).2.2 | (with_reducible refine Kd.C_alloc ?_ _) | (with_reducible refine Kd.C_drewN ?_ _) | (with_reducible refine Kd.C_drew ?_))); (case side2 => exact (Kd.R_reads' HO_3.out).2.1); rintro e w' ⟨rfl, ⟨nd, rfl⟩⟩; (try first | exact ⟨rfl, _, World.drewN_drewN _ _ _⟩ | exact ⟨rfl, _, Eq.trans (World.drewN_drewN _ _ _) (congrArg (World.drewN _) (Nat.add_assoc _ _ _))⟩)))
            repeat (go_quiet (first | (go_at_call 42; (with_reducible refine (spec_keyIn_string.calls k1 _ _ x3_1 (rdOf ByteArray.empty l0 x4_1) true _ ?side1 ?side2 A4.out).mono ?_); (case side1 => repeat (first | exact (Kd.R_reads' HO_3.out).2.2 | (with_reducible refine Kd.C_alloc ?_ _) | (with_reducible refine Kd.C_drewN ?_ _) | (with_reducible refine Kd.C_drew ?_))); (case side2 => exact (Kd.R_reads' HO_3.out).2.1); rintro e w' ⟨rfl, ⟨nd, rfl⟩⟩; (try first | exact ⟨rfl, _, World.drewN_drewN _ _ _⟩ | exact ⟨rfl, _, Eq.trans (World.drewN_drewN _ _ _) (congrArg (World.drewN _) (Nat.add_assoc _ _ _))⟩))); try go_wp2_with (first | (go_at_call 42; (with_reducible refine (spec_keyIn_string.calls k1 _ _ x3_1 (rdOf ByteArray.empty l0 x4_1) true _ ?side1 ?side2 A4.out).mono ?_); (case side1 => repeat (first | exact (Kd.R_reads' HO_3.out).2.2 | (with_reducible refine Kd.C_alloc ?_ _) | (with_reducible refine Kd.C_drewN ?_ _) | (with_reducible refine Kd.C_drew ?_))); (case side2 => exact (Kd.R_reads' HO_3.out).2.1); rintro e w' ⟨rfl, ⟨nd, rfl⟩⟩; (try first | exact ⟨rfl, _, World.drewN_drewN _ _ _⟩ | exact ⟨rfl, _, Eq.trans (World.drewN_drewN _ _ _) (congrArg (World.drewN _) (Nat.add_assoc _ _ _))⟩))))
            go_roundg k1
            case measure => have := HK1.out; omega
            case rel => exact ⟨(x3_1), (wrap64 (x4_1 + 1)), (by first | rfl | (simp; done) | (simp [*]; done)), H', ⟨by have := HK1.out; omega⟩, ⟨by (with_reducible repeat (first | apply Kd.R_alloc | apply Kd.R_drewN | apply Kd.R_drew)); exact HO_3.out⟩, ⟨by repeat (first | (with_reducible first | exact HB.out | apply below_alloc | apply pw_below_drewN | apply below_drew1) | exact HB.out)⟩⟩
          · replace c5 := Bool.eq_false_iff.mpr c5
            subst c5
            have H1 : (spec_Keys_string.l1 k1 l0 x3_1 x4_1 0) = some r := by rw [if_neg (show ¬ (false = true) by decide)] at H; exact H
            clear H
            have H := H1
            clear H1
            have H' := Aside0.mk H
            clear H
            have p103 : 0 ≤ (x4_1 : Int) := of_decide_eq_true (by first | (with_reducible assumption) | assumption)
            have q103 : x4_1 < (l0.length : Int) := of_decide_eq_true (by first | (with_reducible assumption) | assumption)
            obtain ⟨ad103, e103, hx103_0⟩ := Kd.at_string HR0.out x4_1 p103 q103
            cases e103
            replace hx103_0 := (HB.out.cell (World.block_lt_of_cell? w _ hx103_0)).trans hx103_0
            replace p103 := eq_true p103
            replace q103 := eq_true q103
            obtain ⟨Ao7, co7, eo7⟩ := Kd.R_slice HO_3.out
            subst eo7
            go_wp2_with (first | (go_at_call 42; (with_reducible refine (spec_keyIn_string.calls k1 _ _ x3_1 (rdOf ByteArray.empty l0 x4_1) false _ ?side1 ?side2 A4.out).mono ?_); (case side1 => repeat (first | exact (Kd.R_reads' HO_3.out).2.2 | (with_reducible refine Kd.C_alloc ?_ _) | (with_reducible refine Kd.C_drewN ?_ _) | (with_reducible refine Kd.C_drew ?_))); (case side2 => exact (Kd.R_reads' HO_3.out).2.1); rintro e w' ⟨rfl, ⟨nd, rfl⟩⟩; (try first | exact ⟨rfl, _, World.drewN_drewN _ _ _⟩ | exact ⟨rfl, _, Eq.trans (World.drewN_drewN _ _ _) (congrArg (World.drewN _) (Nat.add_assoc _ _ _))⟩)))
            repeat (go_quiet (first | (go_at_call 42; (with_reducible refine (spec_keyIn_string.calls k1 _ _ x3_1 (rdOf ByteArray.empty l0 x4_1) false _ ?side1 ?side2 A4.out).mono ?_); (case side1 => repeat (first | exact (Kd.R_reads' HO_3.out).2.2 | (with_reducible refine Kd.C_alloc ?_ _) | (with_reducible refine Kd.C_drewN ?_ _) | (with_reducible refine Kd.C_drew ?_))); (case side2 => exact (Kd.R_reads' HO_3.out).2.1); rintro e w' ⟨rfl, ⟨nd, rfl⟩⟩; (try first | exact ⟨rfl, _, World.drewN_drewN _ _ _⟩ | exact ⟨rfl, _, Eq.trans (World.drewN_drewN _ _ _) (congrArg (World.drewN _) (Nat.add_assoc _ _ _))⟩))); try go_wp2_with (first | (go_at_call 42; (with_reducible refine (spec_keyIn_string.calls k1 _ _ x3_1 (rdOf ByteArray.empty l0 x4_1) false _ ?side1 ?side2 A4.out).mono ?_); (case side1 => repeat (first | exact (Kd.R_reads' HO_3.out).2.2 | (with_reducible refine Kd.C_alloc ?_ _) | (with_reducible refine Kd.C_drewN ?_ _) | (with_reducible refine Kd.C_drew ?_))); (case side2 => exact (Kd.R_reads' HO_3.out).2.1); rintro e w' ⟨rfl, ⟨nd, rfl⟩⟩; (try first | exact ⟨rfl, _, World.drewN_drewN _ _ _⟩ | exact ⟨rfl, _, Eq.trans (World.drewN_drewN _ _ _) (congrArg (World.drewN _) (Nat.add_assoc _ _ _))⟩))))
            go_loopg [5] k1 (fun kq v5 w' => ∃ (x5_2 : Int), v5 = .int .i64 x5_2 ∧ Aside0 (spec_Keys_string.l1 kq l0 x3_1 x4_1 x5_2 = some r) ∧ Aside0 (kq ≤ k1) ∧ Aside0 (Kd.R Kd.string 9 w' w.heap.size (fun _ => True) (.slice Ao7 x3_1.length co7) x3_1) ∧ Aside0 (Below w.heap.size w w'))
            case atStart => exact ⟨(0), (by first | rfl | (simp; done) | (simp [*]; done)), H', ⟨Nat.le_refl _⟩, ⟨by (with_reducible repeat (first | apply Kd.R_alloc | apply Kd.R_drewN | apply Kd.R_drew)); exact HO_3.out⟩, ⟨by repeat (first | (with_reducible first | exact HB.out | apply below_alloc | apply pw_below_drewN | apply below_drew1) | exact HB.out)⟩⟩
            case round =>
              clear H'
              try clear c1
              try clear p1
              try clear q1
              try clear hx1
              try clear c2
              try clear c2b0
              try clear p2
              try clear c3
              try clear c3b0
              try clear c5
              try clear p6
              try clear hx103_0
              try clear p103
              try clear q103
              obtain ⟨x5_2, rfl, HA, HK2, HO_3, HB⟩ := hrel
              cases gk with
              | zero => exact absurd HA.out (by simp [spec_Keys_string.l1])
              | succ k2 =>
                have H := HA.out
                clear HA
                simp only [spec_Keys_string.l1] at H
                by_cases c8 : x5_2 < (x3_1.length : Int)
                · rw [if_pos c8] at H
                  have c8b0 : decide (x5_2 < (x3_1.length : Int)) = true := decide_eq_true c8
                  clear c8
                  by_cases c9 : 0 ≤ x5_2
                  · rw [if_pos c9] at H
                    have c9b0 : decide (0 ≤ x5_2) = true := decide_eq_true c9
                    clear c9
                    by_cases c10 : 0 ≤ x4_1
                    · rw [if_pos c10] at H
                      have c10b0 : decide (0 ≤ x4_1) = true := decide_eq_true c10
                      clear c10
                      by_cases c11 : x4_1 < (l0.length : Int)
                      · rw [if_pos c11] at H
                        have c11b0 : decide (x4_1 < (l0.length : Int)) = true := decide_eq_true c11
                        clear c11
                        by_cases c12 : (Op.bytesLess ((rdOf ByteArray.empty x3_1 x5_2).toList) ((rdOf ByteArray.empty l0 x4_1).toList)) = true
                        · rw [if_pos c12] at H
                          have c12b0 : (Op.bytesLess ((rdOf ByteArray.empty x3_1 x5_2).toList) ((rdOf ByteArray.empty l0 x4_1).toList)) = true := c12
                          clear c12
                          have H' := Aside0.mk H
                          clear H
                          have p105 : 0 ≤ (x5_2 : Int) := of_decide_eq_true (by first | (with_reducible assumption) | assumption)
                          have q105 : x5_2 < (x3_1.length : Int) := of_decide_eq_true (by first | (with_reducible assumption) | assumption)
                          obtain ⟨ad105, e105, hx105_0⟩ := Kd.at_string (Kd.R_reads' HO_3.out).2.2 x5_2 p105 q105
                          cases e105
                          replace p105 := eq_true p105
                          replace q105 := eq_true q105
                          have p106 : 0 ≤ (x4_1 : Int) := of_decide_eq_true (by first | (with_reducible assumption) | assumption)
                          have q106 : x4_1 < (l0.length : Int) := of_decide_eq_true (by first | (with_reducible assumption) | assumption)
                          obtain ⟨ad106, e106, hx106_0⟩ := Kd.at_string HR0.out x4_1 p106 q106
                          obtain rfl : ad103 = ad106 := (by injection e106)
                          replace hx106_0 := (HB.out.cell (World.block_lt_of_cell? w _ hx106_0)).trans hx106_0
                          replace p106 := eq_true p106
                          replace q106 := eq_true q106
                          go_wp2
                          repeat (go_quiet (fail); try go_wp2)
                          go_roundg k2
                          case measure => have := HK1.out; have := HK2.out; omega
                          case rel => exact ⟨(wrap64 (x5_2 + 1)), (by first | rfl | (simp; done) | (simp [*]; done)), H', ⟨by have := HK1.out; have := HK2.out; omega⟩, ⟨by (with_reducible repeat (first | apply Kd.R_alloc | apply Kd.R_drewN | apply Kd.R_drew)); exact HO_3.out⟩, ⟨by repeat (first | (with_reducible first | exact HB.out | apply below_alloc | apply pw_below_drewN | apply below_drew1) | exact HB.out)⟩⟩
                        · rw [if_neg c12] at H
                          have c12b0 : (Op.bytesLess ((rdOf ByteArray.empty x3_1 x5_2).toList) ((rdOf ByteArray.empty l0 x4_1).toList)) = false := by simpa using c12
                          clear c12
                          obtain ⟨y107, hy107⟩ : ∃ y_ : List ByteArray, y_ = (([] : List ByteArray)) := ⟨_, rfl⟩
                          replace H : (if x5_2 ≤ (x3_1.length : Int) then ((some (x3_1.take (x5_2 : Int).toNat : List ByteArray)).bind fun y110 => (if y107.length + y110.length < 8796093022208 then ((some (y107 ++ y110 : List ByteArray)).bind fun y114 => (if y114.length < 8796093022208 then ((some (y114 ++ [rdOf ByteArray.empty l0 x4_1] : List ByteArray)).bind fun y118 => ((some (x3_1.drop (x5_2 : Int).toNat : List ByteArray)).bind fun y121 => (if y118.length + y121.length < 8796093022208 then (spec_Keys_string.l0 k2 l0 (y118 ++ y121) (wrap64 (x4_1 + 1))) else (none)))) else (none))) else (none))) else (none)) = some r := by first | (rw [hy107]; with_reducible exact H) | (have H2_ := (Option.bind_some _ _).symm.trans H; rw [hy107]; with_reducible exact H2_) | (have H2_ := (Option.bind_some _ _).symm.trans H; with_reducible exact H2_) | with_reducible exact H | (rw [hy107]; exact H) | exact H
                          have Ny107 := Aside0.mk hy107
                          clear hy107
                          have c13b0 := eq_true (of_decide_eq_true (by first | (with_reducible assumption) | assumption) : 0 ≤ x5_2)
                          by_cases c14 : x5_2 ≤ (x3_1.length : Int)
                          · rw [if_pos c14] at H
                            have c14b0 := eq_true c14
                            have c14b1 : decide (x5_2 ≤ (x3_1.length : Int)) = true := decide_eq_true c14
                            clear c14
                            obtain ⟨y110, hy110⟩ : ∃ y_ : List ByteArray, y_ = (x3_1.take (x5_2 : Int).toNat) := ⟨_, rfl⟩
                            replace H : (if y107.length + y110.length < 8796093022208 then ((some (y107 ++ y110 : List ByteArray)).bind fun y114 => (if y114.length < 8796093022208 then ((some (y114 ++ [rdOf ByteArray.empty l0 x4_1] : List ByteArray)).bind fun y118 => ((some (x3_1.drop (x5_2 : Int).toNat : List ByteArray)).bind fun y121 => (if y118.length + y121.length < 8796093022208 then (spec_Keys_string.l0 k2 l0 (y118 ++ y121) (wrap64 (x4_1 + 1))) else (none)))) else (none))) else (none)) = some r := by first | (rw [hy110]; with_reducible exact H) | (have H2_ := (Option.bind_some _ _).symm.trans H; rw [hy110]; with_reducible exact H2_) | (have H2_ := (Option.bind_some _ _).symm.trans H; with_reducible exact H2_) | with_reducible exact H | (rw [hy110]; exact H) | exact H
                            have Ny110 := Aside0.mk hy110
                            clear hy110
                            by_cases c15 : y107.length + y110.length < 8796093022208
                            · rw [if_pos c15] at H
                              have LMc15 := Aside0.mk c15
                              clear c15
                              obtain ⟨y114, hy114⟩ : ∃ y_ : List ByteArray, y_ = (y107 ++ y110) := ⟨_, rfl⟩
                              replace H : (if y114.length < 8796093022208 then ((some (y114 ++ [rdOf ByteArray.empty l0 x4_1] : List ByteArray)).bind fun y118 => ((some (x3_1.drop (x5_2 : Int).toNat : List ByteArray)).bind fun y121 => (if y118.length + y121.length < 8796093022208 then (spec_Keys_string.l0 k2 l0 (y118 ++ y121) (wrap64 (x4_1 + 1))) else (none)))) else (none)) = some r := by first | (rw [hy114]; with_reducible exact H) | (have H2_ := (Option.bind_some _ _).symm.trans H; rw [hy114]; with_reducible exact H2_) | (have H2_ := (Option.bind_some _ _).symm.trans H; with_reducible exact H2_) | with_reducible exact H | (rw [hy114]; exact H) | exact H
                              have Ny114 := Aside0.mk hy114
                              clear hy114
                              by_cases c16 : y114.length < 8796093022208
                              · rw [if_pos c16] at H
                                have LMc16 := Aside0.mk c16
                                clear c16
                                obtain ⟨y118, hy118⟩ : ∃ y_ : List ByteArray, y_ = (y114 ++ [rdOf ByteArray.empty l0 x4_1]) := ⟨_, rfl⟩
                                replace H : ((some (x3_1.drop (x5_2 : Int).toNat : List ByteArray)).bind fun y121 => (if y118.length + y121.length < 8796093022208 then (spec_Keys_string.l0 k2 l0 (y118 ++ y121) (wrap64 (x4_1 + 1))) else (none))) = some r := by first | (rw [hy118]; with_reducible exact H) | (have H2_ := (Option.bind_some _ _).symm.trans H; rw [hy118]; with_reducible exact H2_) | (have H2_ := (Option.bind_some _ _).symm.trans H; with_reducible exact H2_) | with_reducible exact H | (rw [hy118]; exact H) | exact H
                                have Ny118 := Aside0.mk hy118
                                clear hy118
                                have c17b0 := eq_true (of_decide_eq_true (by first | (with_reducible assumption) | assumption) : 0 ≤ x5_2)
                                have c18b0 := eq_true (of_decide_eq_true (by first | (with_reducible assumption) | assumption) : x5_2 ≤ (x3_1.length : Int))
                                obtain ⟨y121, hy121⟩ : ∃ y_ : List ByteArray, y_ = (x3_1.drop (x5_2 : Int).toNat) := ⟨_, rfl⟩
                                replace H : (if y118.length + y121.length < 8796093022208 then (spec_Keys_string.l0 k2 l0 (y118 ++ y121) (wrap64 (x4_1 + 1))) else (none)) = some r := by first | (rw [hy121]; with_reducible exact H) | (have H2_ := (Option.bind_some _ _).symm.trans H; rw [hy121]; with_reducible exact H2_) | (have H2_ := (Option.bind_some _ _).symm.trans H; with_reducible exact H2_) | with_reducible exact H | (rw [hy121]; exact H) | exact H
                                have Ny121 := Aside0.mk hy121
                                clear hy121
                                by_cases c19 : y118.length + y121.length < 8796093022208
                                · rw [if_pos c19] at H
                                  have LMc19 := Aside0.mk c19
                                  clear c19
                                  obtain ⟨y125, hy125⟩ : ∃ y_ : List ByteArray, y_ = (y118 ++ y121) := ⟨_, rfl⟩
                                  replace H : (spec_Keys_string.l0 k2 l0 y125 (wrap64 (x4_1 + 1))) = some r := by first | (rw [hy125]; with_reducible exact H) | (have H2_ := (Option.bind_some _ _).symm.trans H; rw [hy125]; with_reducible exact H2_) | (have H2_ := (Option.bind_some _ _).symm.trans H; with_reducible exact H2_) | with_reducible exact H | (rw [hy125]; exact H) | exact H
                                  have Ny125 := Aside0.mk hy125
                                  clear hy125
                                  have H' := Aside0.mk H
                                  clear H
                                  have p105 : 0 ≤ (x5_2 : Int) := of_decide_eq_true (by first | (with_reducible assumption) | assumption)
                                  have q105 : x5_2 < (x3_1.length : Int) := of_decide_eq_true (by first | (with_reducible assumption) | assumption)
                                  obtain ⟨ad105, e105, hx105_0⟩ := Kd.at_string (Kd.R_reads' HO_3.out).2.2 x5_2 p105 q105
                                  cases e105
                                  replace p105 := eq_true p105
                                  replace q105 := eq_true q105
                                  have p106 : 0 ≤ (x4_1 : Int) := of_decide_eq_true (by first | (with_reducible assumption) | assumption)
                                  have q106 : x4_1 < (l0.length : Int) := of_decide_eq_true (by first | (with_reducible assumption) | assumption)
                                  obtain ⟨ad106, e106, hx106_0⟩ := Kd.at_string HR0.out x4_1 p106 q106
                                  obtain rfl : ad103 = ad106 := (by injection e106)
                                  replace hx106_0 := (HB.out.cell (World.block_lt_of_cell? w _ hx106_0)).trans hx106_0
                                  replace p106 := eq_true p106
                                  replace q106 := eq_true q106
                                  go_wp2_with (first | ((with_reducible refine gate_dst (N := 36) rfl ?_); refine Kd.R_lit Kd.string _ 9 ?hg (N := 36) ?hd (xs := ([] : List ByteArray)) (inner := []) (ok := fun _ => True) (okp := fun _ => True) ?hr ?hp (fun _ hk => hk) trivial (Below.refl _ _) (Nat.le_refl _) (by simp) ?_; (case hd => rfl); (case hg => rfl); (case hr => first | (go_simp; done) | (go_simp; rfl)); (case hp => exact (Reps.none _ _)); intro v108 w20 ho21 hb hg_ hnew_; clear hg_ hnew_; (first | rw [← Ny107.out] at ho21 | (simp only [Int.reduceToNat] at ho21; rw [← Ny107.out] at ho21)); have n0_ := Aside0.mk (Kd.R_elder' (by (with_reducible repeat (first | apply Kd.R_alloc | apply Kd.R_drewN | apply Kd.R_drew)); exact HO_3.out) (Kd.R_base ho21) hb); have n1_ := Aside0.mk (Kd.R_lower (Kd.R_new' ho21 (Kd.R_lt (by (with_reducible repeat (first | apply Kd.R_alloc | apply Kd.R_drewN | apply Kd.R_drew)); exact HO_3.out))) (below_size (by repeat (first | (with_reducible first | exact HB.out | apply below_alloc | apply pw_below_drewN | apply below_drew1) | exact HB.out)))); have n2_ := Aside0.mk (below_step (by repeat (first | (with_reducible first | exact HB.out | apply below_alloc | apply pw_below_drewN | apply below_drew1) | exact HB.out)) hb); clear HO_3; clear HB; have HO_3 := n0_; have HO109 := n1_; have HB := n2_; clear n0_ n1_ n2_; clear hb ho21; have q22 : (x5_2 : Int) ≤ ((x3_1.length : Int) : Int) := of_decide_eq_true (by first | (with_reducible assumption) | assumption); obtain ⟨i022, hi022, _, hsz22, _⟩ := info_parts info9; have hroom22 : x3_1.length ≤ co7 := (Kd.R_reads' HO_3.out).2.1; have hC22 : Kd.C Kd.string _ (some ad105) x3_1.length x3_1 := (Kd.R_reads' HO_3.out).2.2; have hcut22 := cut_to (P := Try.prog) 27 9 .i64 Try.underlying27 hi022 (some ad105) x3_1.length co7 x5_2 (of_decide_eq_true (by first | (with_reducible assumption) | assumption)) q22 hroom22; have hr22 := Kd.C_take (m := (x5_2 : Int).toNat) hC22 (by omega); have hy22 : y110.length = (x5_2 : Int).toNat := (by rw [Ny110.out, List.length_take]; omega); rw [← Ny110.out] at hr22; rw [← hy22] at hcut22; have HR113 := Aside0.mk hr22; have HC113 := Aside0.mk (show y110.length ≤ co7 from by omega); clear hr22 hC22 hroom22 hi022 hsz22; have KY22 := Aside0.mk hy22; clear hy22; have KL22 := Aside0.mk (show (x5_2 : Int).toNat ≤ x3_1.length from by omega); replace q22 := eq_true q22) | ((with_reducible refine gate_builtin (b := .append) (xs := #[.tmp 36, .tmp 39]) rfl ?_); at_builtin; refine Kd.R_append_rows Kd.string (w0 := w) w.heap.size rfl (.tmp 36) (.tmp 39) 27 9 (.string ⟨#[]⟩) 16 rfl Try.underlying27 info9 rfl (by decide) (by omega) v108 y107 y110 _ _ _ (fun k_ => some k_ ≠ (.slice (some ad105) x3_1.length co7 : Value).ownBlock) (fun _ => False) rfl rfl ?aO ?aR (fun _ _ h => h) (fun _ h => h.elim) ?aF ?aB ?aS ?aL ?_; (case aR => repeat (first | exact (by repeat (first | (with_reducible exact HR113.out) | (with_reducible refine Kd.C_alloc ?_ _) | (with_reducible refine Kd.C_drewN ?_ _) | (with_reducible refine Kd.C_drew ?_) | exact HR113.out)) | (with_reducible refine Kd.C_alloc ?_ _) | (with_reducible refine Kd.C_drewN ?_ _) | (with_reducible refine Kd.C_drew ?_))); (case aB => exact (by repeat (first | (with_reducible first | exact HB.out | apply below_alloc | apply pw_below_drewN | apply below_drew1) | exact HB.out))); (case aF => exact (fun k_ hk => Kd.fresh' (Kd.R_lt (by (with_reducible repeat (first | apply Kd.R_alloc | apply Kd.R_drewN | apply Kd.R_drew)); exact HO_3.out)) k_ hk)); (case aO => exact (by (with_reducible repeat (first | apply Kd.R_alloc | apply Kd.R_drewN | apply Kd.R_drew)); exact Kd.R_mono HO109.out (fun _ hk => hk.2))); (case aS => exact (below_size (by repeat (first | (with_reducible first | exact HB.out | apply below_alloc | apply pw_below_drewN | apply below_drew1) | exact HB.out)))); (case aL => have := LMc15.out; omega); intro v115 w23 ho hb hg hat; rw [← Ny114.out] at ho; have n0_ := Aside0.mk (Kd.R_after (ok := (fun _ => True)) (by (with_reducible repeat (first | apply Kd.R_alloc | apply Kd.R_drewN | apply Kd.R_drew)); exact HO_3.out) hg hat); have n1_ := Aside0.mk (hb); have n2_ := Aside0.mk ((show Kd.C Kd.string w23 (some ad105) y110.length y110 from by rw [Ny110.out]; exact Kd.C_take (m := (x5_2 : Int).toNat) ((Kd.R_reads' (Kd.R_after (ok := (fun _ => True)) (by (with_reducible repeat (first | apply Kd.R_alloc | apply Kd.R_drewN | apply Kd.R_drew)); exact HO_3.out) hg hat)).2.2) KL22.out)); have n3_ := Aside0.mk (ho); clear HO_3; clear HB; clear HR113; clear HO109; have HO_3 := n0_; have HB := n1_; have HR113 := n2_; have HO116 := n3_; clear n0_ n1_ n2_ n3_; clear ho hb hg hat; have p117 : 0 ≤ (x4_1 : Int) := of_decide_eq_true (by first | (with_reducible assumption) | assumption); have q117 : x4_1 < (l0.length : Int) := of_decide_eq_true (by first | (with_reducible assumption) | assumption); obtain ⟨ad117, e117, hx117_0⟩ := Kd.at_string HR0.out x4_1 p117 q117; obtain rfl : ad103 = ad117 := (by injection e117); replace hx117_0 := (HB.out.cell (World.block_lt_of_cell? w _ hx117_0)).trans hx117_0; replace p117 := eq_true p117; replace q117 := eq_true q117) | ((with_reducible refine gate_builtin (b := .append) (xs := #[.tmp 41, .tmp 46]) rfl ?_); at_builtin; refine Kd.R_append Kd.string (w0 := w) w.heap.size rfl (.tmp 41) (.tmp 46) 27 9 (.string ⟨#[]⟩) 16 rfl Try.underlying27 info9 rfl (by decide) (by omega) v115 y114 (rdOf ByteArray.empty l0 x4_1) [.string (rdOf ByteArray.empty l0 x4_1)] (fun k_ => some k_ ≠ (.slice (some ad105) x3_1.length co7 : Value).ownBlock) (fun _ => False) rfl rfl ?aP (fun _ hk => hk.elim) ?aF ?aO ?aB ?aS ?aL ?_; (case aP => exact rfl); (case aB => exact (by repeat (first | (with_reducible first | exact HB.out | apply below_alloc | apply pw_below_drewN | apply below_drew1) | exact HB.out))); (case aF => exact (fun k_ hk => Kd.fresh' (Kd.R_lt (by (with_reducible repeat (first | apply Kd.R_alloc | apply Kd.R_drewN | apply Kd.R_drew)); exact HO_3.out)) k_ hk)); (case aO => exact (by (with_reducible repeat (first | apply Kd.R_alloc | apply Kd.R_drewN | apply Kd.R_drew)); exact HO116.out)); (case aS => exact (below_size (by repeat (first | (with_reducible first | exact HB.out | apply below_alloc | apply pw_below_drewN | apply below_drew1) | exact HB.out)))); (case aL => have := LMc16.out; omega); intro v119 w24 ho hb hg hat; rw [← Ny118.out] at ho; have n0_ := Aside0.mk (Kd.R_after (ok := (fun _ => True)) (by (with_reducible repeat (first | apply Kd.R_alloc | apply Kd.R_drewN | apply Kd.R_drew)); exact HO_3.out) hg hat); have n1_ := Aside0.mk (hb); have n2_ := Aside0.mk ((show Kd.C Kd.string w24 (some ad105) y110.length y110 from by rw [Ny110.out]; exact Kd.C_take (m := (x5_2 : Int).toNat) ((Kd.R_reads' (Kd.R_after (ok := (fun _ => True)) (by (with_reducible repeat (first | apply Kd.R_alloc | apply Kd.R_drewN | apply Kd.R_drew)); exact HO_3.out) hg hat)).2.2) KL22.out)); have n3_ := Aside0.mk (ho); clear HO_3; clear HB; clear HR113; clear HO116; have HO_3 := n0_; have HB := n1_; have HR113 := n2_; have HO120 := n3_; clear n0_ n1_ n2_ n3_; clear ho hb hg hat; have q25 : (x5_2 : Int) ≤ ((x3_1.length : Int) : Int) := of_decide_eq_true (by first | (with_reducible assumption) | assumption); obtain ⟨i025, hi025, _, hsz25, _⟩ := info_parts info9; have hroom25 : x3_1.length ≤ co7 := (Kd.R_reads' HO_3.out).2.1; have hC25 : Kd.C Kd.string _ (some ad105) x3_1.length x3_1 := (Kd.R_reads' HO_3.out).2.2; have q025 : (0 : Int) ≤ (x5_2 : Int) := of_decide_eq_true (by first | (with_reducible assumption) | assumption); have hcut25 := cut_from (P := Try.prog) 27 9 .i64 Try.underlying27 hi025 1 hsz25 (some ad105) x3_1.length co7 x5_2 q025 q25; have hr25 := Kd.C_drop (m := (x5_2 : Int).toNat) (c := co7) hC25 (by omega) hroom25; obtain ⟨A25, hA25⟩ : ∃ A1, A1 = (if co7 = (x5_2 : Int).toNat then (some ad105) else ((some ad105) : Option Addr).map (·.add ((x5_2 : Int).toNat * 1))) := ⟨_, rfl⟩; obtain ⟨c25, hc25⟩ : ∃ c1, c1 = co7 - (x5_2 : Int).toNat := ⟨_, rfl⟩; have hy25 : y121.length = x3_1.length - (x5_2 : Int).toNat := (by rw [Ny121.out, List.length_drop] <;> omega); rw [show (x3_1).drop (x5_2 : Int).toNat = y121 from Ny121.out.symm] at hr25; replace hr25 : Kd.C Kd.string _ A25 y121.length y121 := (by rw [hA25]; exact hr25); rw [← hy25, ← hA25, ← hc25] at hcut25; have HR124 := Aside0.mk hr25; have HC124 := Aside0.mk (show y121.length ≤ c25 from by rw [hy25, hc25]; exact Nat.sub_le_sub_right hroom25 _); clear hr25 hC25 hroom25 hi025 hsz25 hc25; have KY25 := Aside0.mk hy25; have KA25 := Aside0.mk hA25; clear hy25 hA25; have KL25 := Aside0.mk (show (x5_2 : Int).toNat ≤ x3_1.length from by omega); replace q25 := eq_true q25) | ((with_reducible refine gate_builtin (b := .append) (xs := #[.tmp 48, .tmp 51]) rfl ?_); at_builtin; refine Kd.R_append_rows Kd.string (w0 := w) w.heap.size rfl (.tmp 48) (.tmp 51) 27 9 (.string ⟨#[]⟩) 16 rfl Try.underlying27 info9 rfl (by decide) (by omega) v119 y118 y121 _ _ _ (fun k_ => some k_ ≠ (.slice (some ad105) x3_1.length co7 : Value).ownBlock) (fun _ => False) rfl rfl ?aO ?aR (fun _ _ h => h) (fun _ h => h.elim) ?aF ?aB ?aS ?aL ?_; (case aR => repeat (first | exact (by repeat (first | (with_reducible exact HR124.out) | (with_reducible refine Kd.C_alloc ?_ _) | (with_reducible refine Kd.C_drewN ?_ _) | (with_reducible refine Kd.C_drew ?_) | exact HR124.out)) | (with_reducible refine Kd.C_alloc ?_ _) | (with_reducible refine Kd.C_drewN ?_ _) | (with_reducible refine Kd.C_drew ?_))); (case aB => exact (by repeat (first | (with_reducible first | exact HB.out | apply below_alloc | apply pw_below_drewN | apply below_drew1) | exact HB.out))); (case aF => exact (fun k_ hk => Kd.fresh' (Kd.R_lt (by (with_reducible repeat (first | apply Kd.R_alloc | apply Kd.R_drewN | apply Kd.R_drew)); exact HO_3.out)) k_ hk)); (case aO => exact (by (with_reducible repeat (first | apply Kd.R_alloc | apply Kd.R_drewN | apply Kd.R_drew)); exact HO120.out)); (case aS => exact (below_size (by repeat (first | (with_reducible first | exact HB.out | apply below_alloc | apply pw_below_drewN | apply below_drew1) | exact HB.out)))); (case aL => have := LMc19.out; omega); intro v126 w26 ho hb hg hat; rw [← Ny125.out] at ho; have n0_ := Aside0.mk (Kd.R_after (ok := (fun _ => True)) (by (with_reducible repeat (first | apply Kd.R_alloc | apply Kd.R_drewN | apply Kd.R_drew)); exact HO_3.out) hg hat); have n1_ := Aside0.mk (hb); have n2_ := Aside0.mk ((show Kd.C Kd.string w26 (some ad105) y110.length y110 from by rw [Ny110.out]; exact Kd.C_take (m := (x5_2 : Int).toNat) ((Kd.R_reads' (Kd.R_after (ok := (fun _ => True)) (by (with_reducible repeat (first | apply Kd.R_alloc | apply Kd.R_drewN | apply Kd.R_drew)); exact HO_3.out) hg hat)).2.2) KL22.out)); have n3_ := Aside0.mk ((show Kd.C Kd.string w26 A25 y121.length y121 from by rw [Ny121.out, KA25.out]; exact Kd.C_drop (m := (x5_2 : Int).toNat) (c := co7) ((Kd.R_reads' (Kd.R_after (ok := (fun _ => True)) (by (with_reducible repeat (first | apply Kd.R_alloc | apply Kd.R_drewN | apply Kd.R_drew)); exact HO_3.out) hg hat)).2.2) KL25.out ((Kd.R_reads' (Kd.R_after (ok := (fun _ => True)) (by (with_reducible repeat (first | apply Kd.R_alloc | apply Kd.R_drewN | apply Kd.R_drew)); exact HO_3.out) hg hat)).2.1))); have n4_ := Aside0.mk (ho); clear HO_3; clear HB; clear HR113; clear HR124; clear HO120; have HO_3 := n0_; have HB := n1_; have HR113 := n2_; have HR124 := n3_; have HO127 := n4_; clear n0_ n1_ n2_ n3_ n4_; clear ho hb hg hat))
                                  repeat (go_quiet (first | ((with_reducible refine gate_dst (N := 36) rfl ?_); refine Kd.R_lit Kd.string _ 9 ?hg (N := 36) ?hd (xs := ([] : List ByteArray)) (inner := []) (ok := fun _ => True) (okp := fun _ => True) ?hr ?hp (fun _ hk => hk) trivial (Below.refl _ _) (Nat.le_refl _) (by simp) ?_; (case hd => rfl); (case hg => rfl); (case hr => first | (go_simp; done) | (go_simp; rfl)); (case hp => exact (Reps.none _ _)); intro v108 w20 ho21 hb hg_ hnew_; clear hg_ hnew_; (first | rw [← Ny107.out] at ho21 | (simp only [Int.reduceToNat] at ho21; rw [← Ny107.out] at ho21)); have n0_ := Aside0.mk (Kd.R_elder' (by (with_reducible repeat (first | apply Kd.R_alloc | apply Kd.R_drewN | apply Kd.R_drew)); exact HO_3.out) (Kd.R_base ho21) hb); have n1_ := Aside0.mk (Kd.R_lower (Kd.R_new' ho21 (Kd.R_lt (by (with_reducible repeat (first | apply Kd.R_alloc | apply Kd.R_drewN | apply Kd.R_drew)); exact HO_3.out))) (below_size (by repeat (first | (with_reducible first | exact HB.out | apply below_alloc | apply pw_below_drewN | apply below_drew1) | exact HB.out)))); have n2_ := Aside0.mk (below_step (by repeat (first | (with_reducible first | exact HB.out | apply below_alloc | apply pw_below_drewN | apply below_drew1) | exact HB.out)) hb); clear HO_3; clear HB; have HO_3 := n0_; have HO109 := n1_; have HB := n2_; clear n0_ n1_ n2_; clear hb ho21; have q22 : (x5_2 : Int) ≤ ((x3_1.length : Int) : Int) := of_decide_eq_true (by first | (with_reducible assumption) | assumption); obtain ⟨i022, hi022, _, hsz22, _⟩ := info_parts info9; have hroom22 : x3_1.length ≤ co7 := (Kd.R_reads' HO_3.out).2.1; have hC22 : Kd.C Kd.string _ (some ad105) x3_1.length x3_1 := (Kd.R_reads' HO_3.out).2.2; have hcut22 := cut_to (P := Try.prog) 27 9 .i64 Try.underlying27 hi022 (some ad105) x3_1.length co7 x5_2 (of_decide_eq_true (by first | (with_reducible assumption) | assumption)) q22 hroom22; have hr22 := Kd.C_take (m := (x5_2 : Int).toNat) hC22 (by omega); have hy22 : y110.length = (x5_2 : Int).toNat := (by rw [Ny110.out, List.length_take]; omega); rw [← Ny110.out] at hr22; rw [← hy22] at hcut22; have HR113 := Aside0.mk hr22; have HC113 := Aside0.mk (show y110.length ≤ co7 from by omega); clear hr22 hC22 hroom22 hi022 hsz22; have KY22 := Aside0.mk hy22; clear hy22; have KL22 := Aside0.mk (show (x5_2 : Int).toNat ≤ x3_1.length from by omega); replace q22 := eq_true q22) | ((with_reducible refine gate_builtin (b := .append) (xs := #[.tmp 36, .tmp 39]) rfl ?_); at_builtin; refine Kd.R_append_rows Kd.string (w0 := w) w.heap.size rfl (.tmp 36) (.tmp 39) 27 9 (.string ⟨#[]⟩) 16 rfl Try.underlying27 info9 rfl (by decide) (by omega) v108 y107 y110 _ _ _ (fun k_ => some k_ ≠ (.slice (some ad105) x3_1.length co7 : Value).ownBlock) (fun _ => False) rfl rfl ?aO ?aR (fun _ _ h => h) (fun _ h => h.elim) ?aF ?aB ?aS ?aL ?_; (case aR => repeat (first | exact (by repeat (first | (with_reducible exact HR113.out) | (with_reducible refine Kd.C_alloc ?_ _) | (with_reducible refine Kd.C_drewN ?_ _) | (with_reducible refine Kd.C_drew ?_) | exact HR113.out)) | (with_reducible refine Kd.C_alloc ?_ _) | (with_reducible refine Kd.C_drewN ?_ _) | (with_reducible refine Kd.C_drew ?_))); (case aB => exact (by repeat (first | (with_reducible first | exact HB.out | apply below_alloc | apply pw_below_drewN | apply below_drew1) | exact HB.out))); (case aF => exact (fun k_ hk => Kd.fresh' (Kd.R_lt (by (with_reducible repeat (first | apply Kd.R_alloc | apply Kd.R_drewN | apply Kd.R_drew)); exact HO_3.out)) k_ hk)); (case aO => exact (by (with_reducible repeat (first | apply Kd.R_alloc | apply Kd.R_drewN | apply Kd.R_drew)); exact Kd.R_mono HO109.out (fun _ hk => hk.2))); (case aS => exact (below_size (by repeat (first | (with_reducible first | exact HB.out | apply below_alloc | apply pw_below_drewN | apply below_drew1) | exact HB.out)))); (case aL => have := LMc15.out; omega); intro v115 w23 ho hb hg hat; rw [← Ny114.out] at ho; have n0_ := Aside0.mk (Kd.R_after (ok := (fun _ => True)) (by (with_reducible repeat (first | apply Kd.R_alloc | apply Kd.R_drewN | apply Kd.R_drew)); exact HO_3.out) hg hat); have n1_ := Aside0.mk (hb); have n2_ := Aside0.mk ((show Kd.C Kd.string w23 (some ad105) y110.length y110 from by rw [Ny110.out]; exact Kd.C_take (m := (x5_2 : Int).toNat) ((Kd.R_reads' (Kd.R_after (ok := (fun _ => True)) (by (with_reducible repeat (first | apply Kd.R_alloc | apply Kd.R_drewN | apply Kd.R_drew)); exact HO_3.out) hg hat)).2.2) KL22.out)); have n3_ := Aside0.mk (ho); clear HO_3; clear HB; clear HR113; clear HO109; have HO_3 := n0_; have HB := n1_; have HR113 := n2_; have HO116 := n3_; clear n0_ n1_ n2_ n3_; clear ho hb hg hat; have p117 : 0 ≤ (x4_1 : Int) := of_decide_eq_true (by first | (with_reducible assumption) | assumption); have q117 : x4_1 < (l0.length : Int) := of_decide_eq_true (by first | (with_reducible assumption) | assumption); obtain ⟨ad117, e117, hx117_0⟩ := Kd.at_string HR0.out x4_1 p117 q117; obtain rfl : ad103 = ad117 := (by injection e117); replace hx117_0 := (HB.out.cell (World.block_lt_of_cell? w _ hx117_0)).trans hx117_0; replace p117 := eq_true p117; replace q117 := eq_true q117) | ((with_reducible refine gate_builtin (b := .append) (xs := #[.tmp 41, .tmp 46]) rfl ?_); at_builtin; refine Kd.R_append Kd.string (w0 := w) w.heap.size rfl (.tmp 41) (.tmp 46) 27 9 (.string ⟨#[]⟩) 16 rfl Try.underlying27 info9 rfl (by decide) (by omega) v115 y114 (rdOf ByteArray.empty l0 x4_1) [.string (rdOf ByteArray.empty l0 x4_1)] (fun k_ => some k_ ≠ (.slice (some ad105) x3_1.length co7 : Value).ownBlock) (fun _ => False) rfl rfl ?aP (fun _ hk => hk.elim) ?aF ?aO ?aB ?aS ?aL ?_; (case aP => exact rfl); (case aB => exact (by repeat (first | (with_reducible first | exact HB.out | apply below_alloc | apply pw_below_drewN | apply below_drew1) | exact HB.out))); (case aF => exact (fun k_ hk => Kd.fresh' (Kd.R_lt (by (with_reducible repeat (first | apply Kd.R_alloc | apply Kd.R_drewN | apply Kd.R_drew)); exact HO_3.out)) k_ hk)); (case aO => exact (by (with_reducible repeat (first | apply Kd.R_alloc | apply Kd.R_drewN | apply Kd.R_drew)); exact HO116.out)); (case aS => exact (below_size (by repeat (first | (with_reducible first | exact HB.out | apply below_alloc | apply pw_below_drewN | apply below_drew1) | exact HB.out)))); (case aL => have := LMc16.out; omega); intro v119 w24 ho hb hg hat; rw [← Ny118.out] at ho; have n0_ := Aside0.mk (Kd.R_after (ok := (fun _ => True)) (by (with_reducible repeat (first | apply Kd.R_alloc | apply Kd.R_drewN | apply Kd.R_drew)); exact HO_3.out) hg hat); have n1_ := Aside0.mk (hb); have n2_ := Aside0.mk ((show Kd.C Kd.string w24 (some ad105) y110.length y110 from by rw [Ny110.out]; exact Kd.C_take (m := (x5_2 : Int).toNat) ((Kd.R_reads' (Kd.R_after (ok := (fun _ => True)) (by (with_reducible repeat (first | apply Kd.R_alloc | apply Kd.R_drewN | apply Kd.R_drew)); exact HO_3.out) hg hat)).2.2) KL22.out)); have n3_ := Aside0.mk (ho); clear HO_3; clear HB; clear HR113; clear HO116; have HO_3 := n0_; have HB := n1_; have HR113 := n2_; have HO120 := n3_; clear n0_ n1_ n2_ n3_; clear ho hb hg hat; have q25 : (x5_2 : Int) ≤ ((x3_1.length : Int) : Int) := of_decide_eq_true (by first | (with_reducible assumption) | assumption); obtain ⟨i025, hi025, _, hsz25, _⟩ := info_parts info9; have hroom25 : x3_1.length ≤ co7 := (Kd.R_reads' HO_3.out).2.1; have hC25 : Kd.C Kd.string _ (some ad105) x3_1.length x3_1 := (Kd.R_reads' HO_3.out).2.2; have q025 : (0 : Int) ≤ (x5_2 : Int) := of_decide_eq_true (by first | (with_reducible assumption) | assumption); have hcut25 := cut_from (P := Try.prog) 27 9 .i64 Try.underlying27 hi025 1 hsz25 (some ad105) x3_1.length co7 x5_2 q025 q25; have hr25 := Kd.C_drop (m := (x5_2 : Int).toNat) (c := co7) hC25 (by omega) hroom25; obtain ⟨A25, hA25⟩ : ∃ A1, A1 = (if co7 = (x5_2 : Int).toNat then (some ad105) else ((some ad105) : Option Addr).map (·.add ((x5_2 : Int).toNat * 1))) := ⟨_, rfl⟩; obtain ⟨c25, hc25⟩ : ∃ c1, c1 = co7 - (x5_2 : Int).toNat := ⟨_, rfl⟩; have hy25 : y121.length = x3_1.length - (x5_2 : Int).toNat := (by rw [Ny121.out, List.length_drop] <;> omega); rw [show (x3_1).drop (x5_2 : Int).toNat = y121 from Ny121.out.symm] at hr25; replace hr25 : Kd.C Kd.string _ A25 y121.length y121 := (by rw [hA25]; exact hr25); rw [← hy25, ← hA25, ← hc25] at hcut25; have HR124 := Aside0.mk hr25; have HC124 := Aside0.mk (show y121.length ≤ c25 from by rw [hy25, hc25]; exact Nat.sub_le_sub_right hroom25 _); clear hr25 hC25 hroom25 hi025 hsz25 hc25; have KY25 := Aside0.mk hy25; have KA25 := Aside0.mk hA25; clear hy25 hA25; have KL25 := Aside0.mk (show (x5_2 : Int).toNat ≤ x3_1.length from by omega); replace q25 := eq_true q25) | ((with_reducible refine gate_builtin (b := .append) (xs := #[.tmp 48, .tmp 51]) rfl ?_); at_builtin; refine Kd.R_append_rows Kd.string (w0 := w) w.heap.size rfl (.tmp 48) (.tmp 51) 27 9 (.string ⟨#[]⟩) 16 rfl Try.underlying27 info9 rfl (by decide) (by omega) v119 y118 y121 _ _ _ (fun k_ => some k_ ≠ (.slice (some ad105) x3_1.length co7 : Value).ownBlock) (fun _ => False) rfl rfl ?aO ?aR (fun _ _ h => h) (fun _ h => h.elim) ?aF ?aB ?aS ?aL ?_; (case aR => repeat (first | exact (by repeat (first | (with_reducible exact HR124.out) | (with_reducible refine Kd.C_alloc ?_ _) | (with_reducible refine Kd.C_drewN ?_ _) | (with_reducible refine Kd.C_drew ?_) | exact HR124.out)) | (with_reducible refine Kd.C_alloc ?_ _) | (with_reducible refine Kd.C_drewN ?_ _) | (with_reducible refine Kd.C_drew ?_))); (case aB => exact (by repeat (first | (with_reducible first | exact HB.out | apply below_alloc | apply pw_below_drewN | apply below_drew1) | exact HB.out))); (case aF => exact (fun k_ hk => Kd.fresh' (Kd.R_lt (by (with_reducible repeat (first | apply Kd.R_alloc | apply Kd.R_drewN | apply Kd.R_drew)); exact HO_3.out)) k_ hk)); (case aO => exact (by (with_reducible repeat (first | apply Kd.R_alloc | apply Kd.R_drewN | apply Kd.R_drew)); exact HO120.out)); (case aS => exact (below_size (by repeat (first | (with_reducible first | exact HB.out | apply below_alloc | apply pw_below_drewN | apply below_drew1) | exact HB.out)))); (case aL => have := LMc19.out; omega); intro v126 w26 ho hb hg hat; rw [← Ny125.out] at ho; have n0_ := Aside0.mk (Kd.R_after (ok := (fun _ => True)) (by (with_reducible repeat (first | apply Kd.R_alloc | apply Kd.R_drewN | apply Kd.R_drew)); exact HO_3.out) hg hat); have n1_ := Aside0.mk (hb); have n2_ := Aside0.mk ((show Kd.C Kd.string w26 (some ad105) y110.length y110 from by rw [Ny110.out]; exact Kd.C_take (m := (x5_2 : Int).toNat) ((Kd.R_reads' (Kd.R_after (ok := (fun _ => True)) (by (with_reducible repeat (first | apply Kd.R_alloc | apply Kd.R_drewN | apply Kd.R_drew)); exact HO_3.out) hg hat)).2.2) KL22.out)); have n3_ := Aside0.mk ((show Kd.C Kd.string w26 A25 y121.length y121 from by rw [Ny121.out, KA25.out]; exact Kd.C_drop (m := (x5_2 : Int).toNat) (c := co7) ((Kd.R_reads' (Kd.R_after (ok := (fun _ => True)) (by (with_reducible repeat (first | apply Kd.R_alloc | apply Kd.R_drewN | apply Kd.R_drew)); exact HO_3.out) hg hat)).2.2) KL25.out ((Kd.R_reads' (Kd.R_after (ok := (fun _ => True)) (by (with_reducible repeat (first | apply Kd.R_alloc | apply Kd.R_drewN | apply Kd.R_drew)); exact HO_3.out) hg hat)).2.1))); have n4_ := Aside0.mk (ho); clear HO_3; clear HB; clear HR113; clear HR124; clear HO120; have HO_3 := n0_; have HB := n1_; have HR113 := n2_; have HR124 := n3_; have HO127 := n4_; clear n0_ n1_ n2_ n3_ n4_; clear ho hb hg hat)); try go_wp2_with (first | ((with_reducible refine gate_dst (N := 36) rfl ?_); refine Kd.R_lit Kd.string _ 9 ?hg (N := 36) ?hd (xs := ([] : List ByteArray)) (inner := []) (ok := fun _ => True) (okp := fun _ => True) ?hr ?hp (fun _ hk => hk) trivial (Below.refl _ _) (Nat.le_refl _) (by simp) ?_; (case hd => rfl); (case hg => rfl); (case hr => first | (go_simp; done) | (go_simp; rfl)); (case hp => exact (Reps.none _ _)); intro v108 w20 ho21 hb hg_ hnew_; clear hg_ hnew_; (first | rw [← Ny107.out] at ho21 | (simp only [Int.reduceToNat] at ho21; rw [← Ny107.out] at ho21)); have n0_ := Aside0.mk (Kd.R_elder' (by (with_reducible repeat (first | apply Kd.R_alloc | apply Kd.R_drewN | apply Kd.R_drew)); exact HO_3.out) (Kd.R_base ho21) hb); have n1_ := Aside0.mk (Kd.R_lower (Kd.R_new' ho21 (Kd.R_lt (by (with_reducible repeat (first | apply Kd.R_alloc | apply Kd.R_drewN | apply Kd.R_drew)); exact HO_3.out))) (below_size (by repeat (first | (with_reducible first | exact HB.out | apply below_alloc | apply pw_below_drewN | apply below_drew1) | exact HB.out)))); have n2_ := Aside0.mk (below_step (by repeat (first | (with_reducible first | exact HB.out | apply below_alloc | apply pw_below_drewN | apply below_drew1) | exact HB.out)) hb); clear HO_3; clear HB; have HO_3 := n0_; have HO109 := n1_; have HB := n2_; clear n0_ n1_ n2_; clear hb ho21; have q22 : (x5_2 : Int) ≤ ((x3_1.length : Int) : Int) := of_decide_eq_true (by first | (with_reducible assumption) | assumption); obtain ⟨i022, hi022, _, hsz22, _⟩ := info_parts info9; have hroom22 : x3_1.length ≤ co7 := (Kd.R_reads' HO_3.out).2.1; have hC22 : Kd.C Kd.string _ (some ad105) x3_1.length x3_1 := (Kd.R_reads' HO_3.out).2.2; have hcut22 := cut_to (P := Try.prog) 27 9 .i64 Try.underlying27 hi022 (some ad105) x3_1.length co7 x5_2 (of_decide_eq_true (by first | (with_reducible assumption) | assumption)) q22 hroom22; have hr22 := Kd.C_take (m := (x5_2 : Int).toNat) hC22 (by omega); have hy22 : y110.length = (x5_2 : Int).toNat := (by rw [Ny110.out, List.length_take]; omega); rw [← Ny110.out] at hr22; rw [← hy22] at hcut22; have HR113 := Aside0.mk hr22; have HC113 := Aside0.mk (show y110.length ≤ co7 from by omega); clear hr22 hC22 hroom22 hi022 hsz22; have KY22 := Aside0.mk hy22; clear hy22; have KL22 := Aside0.mk (show (x5_2 : Int).toNat ≤ x3_1.length from by omega); replace q22 := eq_true q22) | ((with_reducible refine gate_builtin (b := .append) (xs := #[.tmp 36, .tmp 39]) rfl ?_); at_builtin; refine Kd.R_append_rows Kd.string (w0 := w) w.heap.size rfl (.tmp 36) (.tmp 39) 27 9 (.string ⟨#[]⟩) 16 rfl Try.underlying27 info9 rfl (by decide) (by omega) v108 y107 y110 _ _ _ (fun k_ => some k_ ≠ (.slice (some ad105) x3_1.length co7 : Value).ownBlock) (fun _ => False) rfl rfl ?aO ?aR (fun _ _ h => h) (fun _ h => h.elim) ?aF ?aB ?aS ?aL ?_; (case aR => repeat (first | exact (by repeat (first | (with_reducible exact HR113.out) | (with_reducible refine Kd.C_alloc ?_ _) | (with_reducible refine Kd.C_drewN ?_ _) | (with_reducible refine Kd.C_drew ?_) | exact HR113.out)) | (with_reducible refine Kd.C_alloc ?_ _) | (with_reducible refine Kd.C_drewN ?_ _) | (with_reducible refine Kd.C_drew ?_))); (case aB => exact (by repeat (first | (with_reducible first | exact HB.out | apply below_alloc | apply pw_below_drewN | apply below_drew1) | exact HB.out))); (case aF => exact (fun k_ hk => Kd.fresh' (Kd.R_lt (by (with_reducible repeat (first | apply Kd.R_alloc | apply Kd.R_drewN | apply Kd.R_drew)); exact HO_3.out)) k_ hk)); (case aO => exact (by (with_reducible repeat (first | apply Kd.R_alloc | apply Kd.R_drewN | apply Kd.R_drew)); exact Kd.R_mono HO109.out (fun _ hk => hk.2))); (case aS => exact (below_size (by repeat (first | (with_reducible first | exact HB.out | apply below_alloc | apply pw_below_drewN | apply below_drew1) | exact HB.out)))); (case aL => have := LMc15.out; omega); intro v115 w23 ho hb hg hat; rw [← Ny114.out] at ho; have n0_ := Aside0.mk (Kd.R_after (ok := (fun _ => True)) (by (with_reducible repeat (first | apply Kd.R_alloc | apply Kd.R_drewN | apply Kd.R_drew)); exact HO_3.out) hg hat); have n1_ := Aside0.mk (hb); have n2_ := Aside0.mk ((show Kd.C Kd.string w23 (some ad105) y110.length y110 from by rw [Ny110.out]; exact Kd.C_take (m := (x5_2 : Int).toNat) ((Kd.R_reads' (Kd.R_after (ok := (fun _ => True)) (by (with_reducible repeat (first | apply Kd.R_alloc | apply Kd.R_drewN | apply Kd.R_drew)); exact HO_3.out) hg hat)).2.2) KL22.out)); have n3_ := Aside0.mk (ho); clear HO_3; clear HB; clear HR113; clear HO109; have HO_3 := n0_; have HB := n1_; have HR113 := n2_; have HO116 := n3_; clear n0_ n1_ n2_ n3_; clear ho hb hg hat; have p117 : 0 ≤ (x4_1 : Int) := of_decide_eq_true (by first | (with_reducible assumption) | assumption); have q117 : x4_1 < (l0.length : Int) := of_decide_eq_true (by first | (with_reducible assumption) | assumption); obtain ⟨ad117, e117, hx117_0⟩ := Kd.at_string HR0.out x4_1 p117 q117; obtain rfl : ad103 = ad117 := (by injection e117); replace hx117_0 := (HB.out.cell (World.block_lt_of_cell? w _ hx117_0)).trans hx117_0; replace p117 := eq_true p117; replace q117 := eq_true q117) | ((with_reducible refine gate_builtin (b := .append) (xs := #[.tmp 41, .tmp 46]) rfl ?_); at_builtin; refine Kd.R_append Kd.string (w0 := w) w.heap.size rfl (.tmp 41) (.tmp 46) 27 9 (.string ⟨#[]⟩) 16 rfl Try.underlying27 info9 rfl (by decide) (by omega) v115 y114 (rdOf ByteArray.empty l0 x4_1) [.string (rdOf ByteArray.empty l0 x4_1)] (fun k_ => some k_ ≠ (.slice (some ad105) x3_1.length co7 : Value).ownBlock) (fun _ => False) rfl rfl ?aP (fun _ hk => hk.elim) ?aF ?aO ?aB ?aS ?aL ?_; (case aP => exact rfl); (case aB => exact (by repeat (first | (with_reducible first | exact HB.out | apply below_alloc | apply pw_below_drewN | apply below_drew1) | exact HB.out))); (case aF => exact (fun k_ hk => Kd.fresh' (Kd.R_lt (by (with_reducible repeat (first | apply Kd.R_alloc | apply Kd.R_drewN | apply Kd.R_drew)); exact HO_3.out)) k_ hk)); (case aO => exact (by (with_reducible repeat (first | apply Kd.R_alloc | apply Kd.R_drewN | apply Kd.R_drew)); exact HO116.out)); (case aS => exact (below_size (by repeat (first | (with_reducible first | exact HB.out | apply below_alloc | apply pw_below_drewN | apply below_drew1) | exact HB.out)))); (case aL => have := LMc16.out; omega); intro v119 w24 ho hb hg hat; rw [← Ny118.out] at ho; have n0_ := Aside0.mk (Kd.R_after (ok := (fun _ => True)) (by (with_reducible repeat (first | apply Kd.R_alloc | apply Kd.R_drewN | apply Kd.R_drew)); exact HO_3.out) hg hat); have n1_ := Aside0.mk (hb); have n2_ := Aside0.mk ((show Kd.C Kd.string w24 (some ad105) y110.length y110 from by rw [Ny110.out]; exact Kd.C_take (m := (x5_2 : Int).toNat) ((Kd.R_reads' (Kd.R_after (ok := (fun _ => True)) (by (with_reducible repeat (first | apply Kd.R_alloc | apply Kd.R_drewN | apply Kd.R_drew)); exact HO_3.out) hg hat)).2.2) KL22.out)); have n3_ := Aside0.mk (ho); clear HO_3; clear HB; clear HR113; clear HO116; have HO_3 := n0_; have HB := n1_; have HR113 := n2_; have HO120 := n3_; clear n0_ n1_ n2_ n3_; clear ho hb hg hat; have q25 : (x5_2 : Int) ≤ ((x3_1.length : Int) : Int) := of_decide_eq_true (by first | (with_reducible assumption) | assumption); obtain ⟨i025, hi025, _, hsz25, _⟩ := info_parts info9; have hroom25 : x3_1.length ≤ co7 := (Kd.R_reads' HO_3.out).2.1; have hC25 : Kd.C Kd.string _ (some ad105) x3_1.length x3_1 := (Kd.R_reads' HO_3.out).2.2; have q025 : (0 : Int) ≤ (x5_2 : Int) := of_decide_eq_true (by first | (with_reducible assumption) | assumption); have hcut25 := cut_from (P := Try.prog) 27 9 .i64 Try.underlying27 hi025 1 hsz25 (some ad105) x3_1.length co7 x5_2 q025 q25; have hr25 := Kd.C_drop (m := (x5_2 : Int).toNat) (c := co7) hC25 (by omega) hroom25; obtain ⟨A25, hA25⟩ : ∃ A1, A1 = (if co7 = (x5_2 : Int).toNat then (some ad105) else ((some ad105) : Option Addr).map (·.add ((x5_2 : Int).toNat * 1))) := ⟨_, rfl⟩; obtain ⟨c25, hc25⟩ : ∃ c1, c1 = co7 - (x5_2 : Int).toNat := ⟨_, rfl⟩; have hy25 : y121.length = x3_1.length - (x5_2 : Int).toNat := (by rw [Ny121.out, List.length_drop] <;> omega); rw [show (x3_1).drop (x5_2 : Int).toNat = y121 from Ny121.out.symm] at hr25; replace hr25 : Kd.C Kd.string _ A25 y121.length y121 := (by rw [hA25]; exact hr25); rw [← hy25, ← hA25, ← hc25] at hcut25; have HR124 := Aside0.mk hr25; have HC124 := Aside0.mk (show y121.length ≤ c25 from by rw [hy25, hc25]; exact Nat.sub_le_sub_right hroom25 _); clear hr25 hC25 hroom25 hi025 hsz25 hc25; have KY25 := Aside0.mk hy25; have KA25 := Aside0.mk hA25; clear hy25 hA25; have KL25 := Aside0.mk (show (x5_2 : Int).toNat ≤ x3_1.length from by omega); replace q25 := eq_true q25) | ((with_reducible refine gate_builtin (b := .append) (xs := #[.tmp 48, .tmp 51]) rfl ?_); at_builtin; refine Kd.R_append_rows Kd.string (w0 := w) w.heap.size rfl (.tmp 48) (.tmp 51) 27 9 (.string ⟨#[]⟩) 16 rfl Try.underlying27 info9 rfl (by decide) (by omega) v119 y118 y121 _ _ _ (fun k_ => some k_ ≠ (.slice (some ad105) x3_1.length co7 : Value).ownBlock) (fun _ => False) rfl rfl ?aO ?aR (fun _ _ h => h) (fun _ h => h.elim) ?aF ?aB ?aS ?aL ?_; (case aR => repeat (first | exact (by repeat (first | (with_reducible exact HR124.out) | (with_reducible refine Kd.C_alloc ?_ _) | (with_reducible refine Kd.C_drewN ?_ _) | (with_reducible refine Kd.C_drew ?_) | exact HR124.out)) | (with_reducible refine Kd.C_alloc ?_ _) | (with_reducible refine Kd.C_drewN ?_ _) | (with_reducible refine Kd.C_drew ?_))); (case aB => exact (by repeat (first | (with_reducible first | exact HB.out | apply below_alloc | apply pw_below_drewN | apply below_drew1) | exact HB.out))); (case aF => exact (fun k_ hk => Kd.fresh' (Kd.R_lt (by (with_reducible repeat (first | apply Kd.R_alloc | apply Kd.R_drewN | apply Kd.R_drew)); exact HO_3.out)) k_ hk)); (case aO => exact (by (with_reducible repeat (first | apply Kd.R_alloc | apply Kd.R_drewN | apply Kd.R_drew)); exact HO120.out)); (case aS => exact (below_size (by repeat (first | (with_reducible first | exact HB.out | apply below_alloc | apply pw_below_drewN | apply below_drew1) | exact HB.out)))); (case aL => have := LMc19.out; omega); intro v126 w26 ho hb hg hat; rw [← Ny125.out] at ho; have n0_ := Aside0.mk (Kd.R_after (ok := (fun _ => True)) (by (with_reducible repeat (first | apply Kd.R_alloc | apply Kd.R_drewN | apply Kd.R_drew)); exact HO_3.out) hg hat); have n1_ := Aside0.mk (hb); have n2_ := Aside0.mk ((show Kd.C Kd.string w26 (some ad105) y110.length y110 from by rw [Ny110.out]; exact Kd.C_take (m := (x5_2 : Int).toNat) ((Kd.R_reads' (Kd.R_after (ok := (fun _ => True)) (by (with_reducible repeat (first | apply Kd.R_alloc | apply Kd.R_drewN | apply Kd.R_drew)); exact HO_3.out) hg hat)).2.2) KL22.out)); have n3_ := Aside0.mk ((show Kd.C Kd.string w26 A25 y121.length y121 from by rw [Ny121.out, KA25.out]; exact Kd.C_drop (m := (x5_2 : Int).toNat) (c := co7) ((Kd.R_reads' (Kd.R_after (ok := (fun _ => True)) (by (with_reducible repeat (first | apply Kd.R_alloc | apply Kd.R_drewN | apply Kd.R_drew)); exact HO_3.out) hg hat)).2.2) KL25.out ((Kd.R_reads' (Kd.R_after (ok := (fun _ => True)) (by (with_reducible repeat (first | apply Kd.R_alloc | apply Kd.R_drewN | apply Kd.R_drew)); exact HO_3.out) hg hat)).2.1))); have n4_ := Aside0.mk (ho); clear HO_3; clear HB; clear HR113; clear HR124; clear HO120; have HO_3 := n0_; have HB := n1_; have HR113 := n2_; have HR124 := n3_; have HO127 := n4_; clear n0_ n1_ n2_ n3_ n4_; clear ho hb hg hat)))
                                  go_roundg k2
                                  case measure => have := HK1.out; have := HK2.out; omega
                                  case rel => exact ⟨(y125), (wrap64 (x4_1 + 1)), (by first | rfl | (simp; done) | (simp [*]; done)), H', ⟨by have := HK1.out; have := HK2.out; omega⟩, ⟨by (with_reducible repeat (first | apply Kd.R_alloc | apply Kd.R_drewN | apply Kd.R_drew)); exact Kd.R_mono HO127.out (fun _ hk => trivial)⟩, ⟨by repeat (first | (with_reducible first | exact HB.out | apply below_alloc | apply pw_below_drewN | apply below_drew1) | exact HB.out)⟩⟩
                                · rw [if_neg c19] at H
                                  exact absurd H (by simp)
                              · rw [if_neg c16] at H
                                exact absurd H (by simp)
                            · rw [if_neg c15] at H
                              exact absurd H (by simp)
                          · rw [if_neg c14] at H
                            exact absurd H (by simp)
                      · rw [if_neg c11] at H
                        exact absurd H (by simp)
                    · rw [if_neg c10] at H
                      exact absurd H (by simp)
                  · rw [if_neg c9] at H
                    exact absurd H (by simp)
                · rw [if_neg c8] at H
                  have c8b0 : decide (x5_2 < (x3_1.length : Int)) = false := decide_eq_false c8
                  clear c8
                  obtain ⟨y128, hy128⟩ : ∃ y_ : List ByteArray, y_ = (([] : List ByteArray)) := ⟨_, rfl⟩
                  replace H : (if 0 ≤ x5_2 then (if x5_2 ≤ (x3_1.length : Int) then ((some (x3_1.take (x5_2 : Int).toNat : List ByteArray)).bind fun y131 => (if y128.length + y131.length < 8796093022208 then ((some (y128 ++ y131 : List ByteArray)).bind fun y135 => (if 0 ≤ x4_1 then (if x4_1 < (l0.length : Int) then (if y135.length < 8796093022208 then ((some (y135 ++ [rdOf ByteArray.empty l0 x4_1] : List ByteArray)).bind fun y139 => ((some (x3_1.drop (x5_2 : Int).toNat : List ByteArray)).bind fun y142 => (if y139.length + y142.length < 8796093022208 then (spec_Keys_string.l0 k2 l0 (y139 ++ y142) (wrap64 (x4_1 + 1))) else (none)))) else (none)) else (none)) else (none))) else (none))) else (none)) else (none)) = some r := by first | (rw [hy128]; with_reducible exact H) | (have H2_ := (Option.bind_some _ _).symm.trans H; rw [hy128]; with_reducible exact H2_) | (have H2_ := (Option.bind_some _ _).symm.trans H; with_reducible exact H2_) | with_reducible exact H | (rw [hy128]; exact H) | exact H
                  have Ny128 := Aside0.mk hy128
                  clear hy128
                  by_cases c27 : 0 ≤ x5_2
                  · rw [if_pos c27] at H
                    have c27b0 := eq_true c27
                    have c27b1 : decide (0 ≤ x5_2) = true := decide_eq_true c27
                    clear c27
                    by_cases c28 : x5_2 ≤ (x3_1.length : Int)
                    · rw [if_pos c28] at H
                      have c28b0 := eq_true c28
                      have c28b1 : decide (x5_2 ≤ (x3_1.length : Int)) = true := decide_eq_true c28
                      clear c28
                      obtain ⟨y131, hy131⟩ : ∃ y_ : List ByteArray, y_ = (x3_1.take (x5_2 : Int).toNat) := ⟨_, rfl⟩
                      replace H : (if y128.length + y131.length < 8796093022208 then ((some (y128 ++ y131 : List ByteArray)).bind fun y135 => (if 0 ≤ x4_1 then (if x4_1 < (l0.length : Int) then (if y135.length < 8796093022208 then ((some (y135 ++ [rdOf ByteArray.empty l0 x4_1] : List ByteArray)).bind fun y139 => ((some (x3_1.drop (x5_2 : Int).toNat : List ByteArray)).bind fun y142 => (if y139.length + y142.length < 8796093022208 then (spec_Keys_string.l0 k2 l0 (y139 ++ y142) (wrap64 (x4_1 + 1))) else (none)))) else (none)) else (none)) else (none))) else (none)) = some r := by first | (rw [hy131]; with_reducible exact H) | (have H2_ := (Option.bind_some _ _).symm.trans H; rw [hy131]; with_reducible exact H2_) | (have H2_ := (Option.bind_some _ _).symm.trans H; with_reducible exact H2_) | with_reducible exact H | (rw [hy131]; exact H) | exact H
                      have Ny131 := Aside0.mk hy131
                      clear hy131
                      by_cases c29 : y128.length + y131.length < 8796093022208
                      · rw [if_pos c29] at H
                        have LMc29 := Aside0.mk c29
                        clear c29
                        obtain ⟨y135, hy135⟩ : ∃ y_ : List ByteArray, y_ = (y128 ++ y131) := ⟨_, rfl⟩
                        replace H : (if 0 ≤ x4_1 then (if x4_1 < (l0.length : Int) then (if y135.length < 8796093022208 then ((some (y135 ++ [rdOf ByteArray.empty l0 x4_1] : List ByteArray)).bind fun y139 => ((some (x3_1.drop (x5_2 : Int).toNat : List ByteArray)).bind fun y142 => (if y139.length + y142.length < 8796093022208 then (spec_Keys_string.l0 k2 l0 (y139 ++ y142) (wrap64 (x4_1 + 1))) else (none)))) else (none)) else (none)) else (none)) = some r := by first | (rw [hy135]; with_reducible exact H) | (have H2_ := (Option.bind_some _ _).symm.trans H; rw [hy135]; with_reducible exact H2_) | (have H2_ := (Option.bind_some _ _).symm.trans H; with_reducible exact H2_) | with_reducible exact H | (rw [hy135]; exact H) | exact H
                        have Ny135 := Aside0.mk hy135
                        clear hy135
                        by_cases c30 : 0 ≤ x4_1
                        · rw [if_pos c30] at H
                          have c30b0 : decide (0 ≤ x4_1) = true := decide_eq_true c30
                          clear c30
                          by_cases c31 : x4_1 < (l0.length : Int)
                          · rw [if_pos c31] at H
                            have c31b0 : decide (x4_1 < (l0.length : Int)) = true := decide_eq_true c31
                            clear c31
                            by_cases c32 : y135.length < 8796093022208
                            · rw [if_pos c32] at H
                              have LMc32 := Aside0.mk c32
                              clear c32
                              obtain ⟨y139, hy139⟩ : ∃ y_ : List ByteArray, y_ = (y135 ++ [rdOf ByteArray.empty l0 x4_1]) := ⟨_, rfl⟩
                              replace H : ((some (x3_1.drop (x5_2 : Int).toNat : List ByteArray)).bind fun y142 => (if y139.length + y142.length < 8796093022208 then (spec_Keys_string.l0 k2 l0 (y139 ++ y142) (wrap64 (x4_1 + 1))) else (none))) = some r := by first | (rw [hy139]; with_reducible exact H) | (have H2_ := (Option.bind_some _ _).symm.trans H; rw [hy139]; with_reducible exact H2_) | (have H2_ := (Option.bind_some _ _).symm.trans H; with_reducible exact H2_) | with_reducible exact H | (rw [hy139]; exact H) | exact H
                              have Ny139 := Aside0.mk hy139
                              clear hy139
                              have c33b0 := eq_true (of_decide_eq_true (by first | (with_reducible assumption) | assumption) : 0 ≤ x5_2)
                              have c34b0 := eq_true (of_decide_eq_true (by first | (with_reducible assumption) | assumption) : x5_2 ≤ (x3_1.length : Int))
                              obtain ⟨y142, hy142⟩ : ∃ y_ : List ByteArray, y_ = (x3_1.drop (x5_2 : Int).toNat) := ⟨_, rfl⟩
                              replace H : (if y139.length + y142.length < 8796093022208 then (spec_Keys_string.l0 k2 l0 (y139 ++ y142) (wrap64 (x4_1 + 1))) else (none)) = some r := by first | (rw [hy142]; with_reducible exact H) | (have H2_ := (Option.bind_some _ _).symm.trans H; rw [hy142]; with_reducible exact H2_) | (have H2_ := (Option.bind_some _ _).symm.trans H; with_reducible exact H2_) | with_reducible exact H | (rw [hy142]; exact H) | exact H
                              have Ny142 := Aside0.mk hy142
                              clear hy142
                              by_cases c35 : y139.length + y142.length < 8796093022208
                              · rw [if_pos c35] at H
                                have LMc35 := Aside0.mk c35
                                clear c35
                                obtain ⟨y146, hy146⟩ : ∃ y_ : List ByteArray, y_ = (y139 ++ y142) := ⟨_, rfl⟩
                                replace H : (spec_Keys_string.l0 k2 l0 y146 (wrap64 (x4_1 + 1))) = some r := by first | (rw [hy146]; with_reducible exact H) | (have H2_ := (Option.bind_some _ _).symm.trans H; rw [hy146]; with_reducible exact H2_) | (have H2_ := (Option.bind_some _ _).symm.trans H; with_reducible exact H2_) | with_reducible exact H | (rw [hy146]; exact H) | exact H
                                have Ny146 := Aside0.mk hy146
                                clear hy146
                                have H' := Aside0.mk H
                                clear H
                                go_wp2_with (first | ((with_reducible refine gate_dst (N := 36) rfl ?_); refine Kd.R_lit Kd.string _ 9 ?hg (N := 36) ?hd (xs := ([] : List ByteArray)) (inner := []) (ok := fun _ => True) (okp := fun _ => True) ?hr ?hp (fun _ hk => hk) trivial (Below.refl _ _) (Nat.le_refl _) (by simp) ?_; (case hd => rfl); (case hg => rfl); (case hr => first | (go_simp; done) | (go_simp; rfl)); (case hp => exact (Reps.none _ _)); intro v129 w36 ho37 hb hg_ hnew_; clear hg_ hnew_; (first | rw [← Ny128.out] at ho37 | (simp only [Int.reduceToNat] at ho37; rw [← Ny128.out] at ho37)); have n0_ := Aside0.mk (Kd.R_elder' (by (with_reducible repeat (first | apply Kd.R_alloc | apply Kd.R_drewN | apply Kd.R_drew)); exact HO_3.out) (Kd.R_base ho37) hb); have n1_ := Aside0.mk (Kd.R_lower (Kd.R_new' ho37 (Kd.R_lt (by (with_reducible repeat (first | apply Kd.R_alloc | apply Kd.R_drewN | apply Kd.R_drew)); exact HO_3.out))) (below_size (by repeat (first | (with_reducible first | exact HB.out | apply below_alloc | apply pw_below_drewN | apply below_drew1) | exact HB.out)))); have n2_ := Aside0.mk (below_step (by repeat (first | (with_reducible first | exact HB.out | apply below_alloc | apply pw_below_drewN | apply below_drew1) | exact HB.out)) hb); clear HO_3; clear HB; have HO_3 := n0_; have HO130 := n1_; have HB := n2_; clear n0_ n1_ n2_; clear hb ho37; have q38 : (x5_2 : Int) ≤ ((x3_1.length : Int) : Int) := of_decide_eq_true (by first | (with_reducible assumption) | assumption); obtain ⟨i038, hi038, _, hsz38, _⟩ := info_parts info9; have hroom38 : x3_1.length ≤ co7 := (Kd.R_reads' HO_3.out).2.1; have hC38 : Kd.C Kd.string _ Ao7 x3_1.length x3_1 := (Kd.R_reads' HO_3.out).2.2; have hcut38 := cut_to (P := Try.prog) 27 9 .i64 Try.underlying27 hi038 Ao7 x3_1.length co7 x5_2 (of_decide_eq_true (by first | (with_reducible assumption) | assumption)) q38 hroom38; have hr38 := Kd.C_take (m := (x5_2 : Int).toNat) hC38 (by omega); have hy38 : y131.length = (x5_2 : Int).toNat := (by rw [Ny131.out, List.length_take]; omega); rw [← Ny131.out] at hr38; rw [← hy38] at hcut38; have HR134 := Aside0.mk hr38; have HC134 := Aside0.mk (show y131.length ≤ co7 from by omega); clear hr38 hC38 hroom38 hi038 hsz38; have KY38 := Aside0.mk hy38; clear hy38; have KL38 := Aside0.mk (show (x5_2 : Int).toNat ≤ x3_1.length from by omega); replace q38 := eq_true q38) | ((with_reducible refine gate_builtin (b := .append) (xs := #[.tmp 36, .tmp 39]) rfl ?_); at_builtin; refine Kd.R_append_rows Kd.string (w0 := w) w.heap.size rfl (.tmp 36) (.tmp 39) 27 9 (.string ⟨#[]⟩) 16 rfl Try.underlying27 info9 rfl (by decide) (by omega) v129 y128 y131 _ _ _ (fun k_ => some k_ ≠ (.slice Ao7 x3_1.length co7 : Value).ownBlock) (fun _ => False) rfl rfl ?aO ?aR (fun _ _ h => h) (fun _ h => h.elim) ?aF ?aB ?aS ?aL ?_; (case aR => repeat (first | exact (by repeat (first | (with_reducible exact HR134.out) | (with_reducible refine Kd.C_alloc ?_ _) | (with_reducible refine Kd.C_drewN ?_ _) | (with_reducible refine Kd.C_drew ?_) | exact HR134.out)) | (with_reducible refine Kd.C_alloc ?_ _) | (with_reducible refine Kd.C_drewN ?_ _) | (with_reducible refine Kd.C_drew ?_))); (case aB => exact (by repeat (first | (with_reducible first | exact HB.out | apply below_alloc | apply pw_below_drewN | apply below_drew1) | exact HB.out))); (case aF => exact (fun k_ hk => Kd.fresh' (Kd.R_lt (by (with_reducible repeat (first | apply Kd.R_alloc | apply Kd.R_drewN | apply Kd.R_drew)); exact HO_3.out)) k_ hk)); (case aO => exact (by (with_reducible repeat (first | apply Kd.R_alloc | apply Kd.R_drewN | apply Kd.R_drew)); exact Kd.R_mono HO130.out (fun _ hk => hk.2))); (case aS => exact (below_size (by repeat (first | (with_reducible first | exact HB.out | apply below_alloc | apply pw_below_drewN | apply below_drew1) | exact HB.out)))); (case aL => have := LMc29.out; omega); intro v136 w39 ho hb hg hat; rw [← Ny135.out] at ho; have n0_ := Aside0.mk (Kd.R_after (ok := (fun _ => True)) (by (with_reducible repeat (first | apply Kd.R_alloc | apply Kd.R_drewN | apply Kd.R_drew)); exact HO_3.out) hg hat); have n1_ := Aside0.mk (hb); have n2_ := Aside0.mk ((show Kd.C Kd.string w39 Ao7 y131.length y131 from by rw [Ny131.out]; exact Kd.C_take (m := (x5_2 : Int).toNat) ((Kd.R_reads' (Kd.R_after (ok := (fun _ => True)) (by (with_reducible repeat (first | apply Kd.R_alloc | apply Kd.R_drewN | apply Kd.R_drew)); exact HO_3.out) hg hat)).2.2) KL38.out)); have n3_ := Aside0.mk (ho); clear HO_3; clear HB; clear HR134; clear HO130; have HO_3 := n0_; have HB := n1_; have HR134 := n2_; have HO137 := n3_; clear n0_ n1_ n2_ n3_; clear ho hb hg hat; have p138 : 0 ≤ (x4_1 : Int) := of_decide_eq_true (by first | (with_reducible assumption) | assumption); have q138 : x4_1 < (l0.length : Int) := of_decide_eq_true (by first | (with_reducible assumption) | assumption); obtain ⟨ad138, e138, hx138_0⟩ := Kd.at_string HR0.out x4_1 p138 q138; obtain rfl : ad103 = ad138 := (by injection e138); replace hx138_0 := (HB.out.cell (World.block_lt_of_cell? w _ hx138_0)).trans hx138_0; replace p138 := eq_true p138; replace q138 := eq_true q138) | ((with_reducible refine gate_builtin (b := .append) (xs := #[.tmp 41, .tmp 46]) rfl ?_); at_builtin; refine Kd.R_append Kd.string (w0 := w) w.heap.size rfl (.tmp 41) (.tmp 46) 27 9 (.string ⟨#[]⟩) 16 rfl Try.underlying27 info9 rfl (by decide) (by omega) v136 y135 (rdOf ByteArray.empty l0 x4_1) [.string (rdOf ByteArray.empty l0 x4_1)] (fun k_ => some k_ ≠ (.slice Ao7 x3_1.length co7 : Value).ownBlock) (fun _ => False) rfl rfl ?aP (fun _ hk => hk.elim) ?aF ?aO ?aB ?aS ?aL ?_; (case aP => exact rfl); (case aB => exact (by repeat (first | (with_reducible first | exact HB.out | apply below_alloc | apply pw_below_drewN | apply below_drew1) | exact HB.out))); (case aF => exact (fun k_ hk => Kd.fresh' (Kd.R_lt (by (with_reducible repeat (first | apply Kd.R_alloc | apply Kd.R_drewN | apply Kd.R_drew)); exact HO_3.out)) k_ hk)); (case aO => exact (by (with_reducible repeat (first | apply Kd.R_alloc | apply Kd.R_drewN | apply Kd.R_drew)); exact HO137.out)); (case aS => exact (below_size (by repeat (first | (with_reducible first | exact HB.out | apply below_alloc | apply pw_below_drewN | apply below_drew1) | exact HB.out)))); (case aL => have := LMc32.out; omega); intro v140 w40 ho hb hg hat; rw [← Ny139.out] at ho; have n0_ := Aside0.mk (Kd.R_after (ok := (fun _ => True)) (by (with_reducible repeat (first | apply Kd.R_alloc | apply Kd.R_drewN | apply Kd.R_drew)); exact HO_3.out) hg hat); have n1_ := Aside0.mk (hb); have n2_ := Aside0.mk ((show Kd.C Kd.string w40 Ao7 y131.length y131 from by rw [Ny131.out]; exact Kd.C_take (m := (x5_2 : Int).toNat) ((Kd.R_reads' (Kd.R_after (ok := (fun _ => True)) (by (with_reducible repeat (first | apply Kd.R_alloc | apply Kd.R_drewN | apply Kd.R_drew)); exact HO_3.out) hg hat)).2.2) KL38.out)); have n3_ := Aside0.mk (ho); clear HO_3; clear HB; clear HR134; clear HO137; have HO_3 := n0_; have HB := n1_; have HR134 := n2_; have HO141 := n3_; clear n0_ n1_ n2_ n3_; clear ho hb hg hat; have q41 : (x5_2 : Int) ≤ ((x3_1.length : Int) : Int) := of_decide_eq_true (by first | (with_reducible assumption) | assumption); obtain ⟨i041, hi041, _, hsz41, _⟩ := info_parts info9; have hroom41 : x3_1.length ≤ co7 := (Kd.R_reads' HO_3.out).2.1; have hC41 : Kd.C Kd.string _ Ao7 x3_1.length x3_1 := (Kd.R_reads' HO_3.out).2.2; have q041 : (0 : Int) ≤ (x5_2 : Int) := of_decide_eq_true (by first | (with_reducible assumption) | assumption); have hcut41 := cut_from (P := Try.prog) 27 9 .i64 Try.underlying27 hi041 1 hsz41 Ao7 x3_1.length co7 x5_2 q041 q41; have hr41 := Kd.C_drop (m := (x5_2 : Int).toNat) (c := co7) hC41 (by omega) hroom41; obtain ⟨A41, hA41⟩ : ∃ A1, A1 = (if co7 = (x5_2 : Int).toNat then Ao7 else (Ao7 : Option Addr).map (·.add ((x5_2 : Int).toNat * 1))) := ⟨_, rfl⟩; obtain ⟨c41, hc41⟩ : ∃ c1, c1 = co7 - (x5_2 : Int).toNat := ⟨_, rfl⟩; have hy41 : y142.length = x3_1.length - (x5_2 : Int).toNat := (by rw [Ny142.out, List.length_drop] <;> omega); rw [show (x3_1).drop (x5_2 : Int).toNat = y142 from Ny142.out.symm] at hr41; replace hr41 : Kd.C Kd.string _ A41 y142.length y142 := (by rw [hA41]; exact hr41); rw [← hy41, ← hA41, ← hc41] at hcut41; have HR145 := Aside0.mk hr41; have HC145 := Aside0.mk (show y142.length ≤ c41 from by rw [hy41, hc41]; exact Nat.sub_le_sub_right hroom41 _); clear hr41 hC41 hroom41 hi041 hsz41 hc41; have KY41 := Aside0.mk hy41; have KA41 := Aside0.mk hA41; clear hy41 hA41; have KL41 := Aside0.mk (show (x5_2 : Int).toNat ≤ x3_1.length from by omega); replace q41 := eq_true q41) | ((with_reducible refine gate_builtin (b := .append) (xs := #[.tmp 48, .tmp 51]) rfl ?_); at_builtin; refine Kd.R_append_rows Kd.string (w0 := w) w.heap.size rfl (.tmp 48) (.tmp 51) 27 9 (.string ⟨#[]⟩) 16 rfl Try.underlying27 info9 rfl (by decide) (by omega) v140 y139 y142 _ _ _ (fun k_ => some k_ ≠ (.slice Ao7 x3_1.length co7 : Value).ownBlock) (fun _ => False) rfl rfl ?aO ?aR (fun _ _ h => h) (fun _ h => h.elim) ?aF ?aB ?aS ?aL ?_; (case aR => repeat (first | exact (by repeat (first | (with_reducible exact HR145.out) | (with_reducible refine Kd.C_alloc ?_ _) | (with_reducible refine Kd.C_drewN ?_ _) | (with_reducible refine Kd.C_drew ?_) | exact HR145.out)) | (with_reducible refine Kd.C_alloc ?_ _) | (with_reducible refine Kd.C_drewN ?_ _) | (with_reducible refine Kd.C_drew ?_))); (case aB => exact (by repeat (first | (with_reducible first | exact HB.out | apply below_alloc | apply pw_below_drewN | apply below_drew1) | exact HB.out))); (case aF => exact (fun k_ hk => Kd.fresh' (Kd.R_lt (by (with_reducible repeat (first | apply Kd.R_alloc | apply Kd.R_drewN | apply Kd.R_drew)); exact HO_3.out)) k_ hk)); (case aO => exact (by (with_reducible repeat (first | apply Kd.R_alloc | apply Kd.R_drewN | apply Kd.R_drew)); exact HO141.out)); (case aS => exact (below_size (by repeat (first | (with_reducible first | exact HB.out | apply below_alloc | apply pw_below_drewN | apply below_drew1) | exact HB.out)))); (case aL => have := LMc35.out; omega); intro v147 w42 ho hb hg hat; rw [← Ny146.out] at ho; have n0_ := Aside0.mk (Kd.R_after (ok := (fun _ => True)) (by (with_reducible repeat (first | apply Kd.R_alloc | apply Kd.R_drewN | apply Kd.R_drew)); exact HO_3.out) hg hat); have n1_ := Aside0.mk (hb); have n2_ := Aside0.mk ((show Kd.C Kd.string w42 Ao7 y131.length y131 from by rw [Ny131.out]; exact Kd.C_take (m := (x5_2 : Int).toNat) ((Kd.R_reads' (Kd.R_after (ok := (fun _ => True)) (by (with_reducible repeat (first | apply Kd.R_alloc | apply Kd.R_drewN | apply Kd.R_drew)); exact HO_3.out) hg hat)).2.2) KL38.out)); have n3_ := Aside0.mk ((show Kd.C Kd.string w42 A41 y142.length y142 from by rw [Ny142.out, KA41.out]; exact Kd.C_drop (m := (x5_2 : Int).toNat) (c := co7) ((Kd.R_reads' (Kd.R_after (ok := (fun _ => True)) (by (with_reducible repeat (first | apply Kd.R_alloc | apply Kd.R_drewN | apply Kd.R_drew)); exact HO_3.out) hg hat)).2.2) KL41.out ((Kd.R_reads' (Kd.R_after (ok := (fun _ => True)) (by (with_reducible repeat (first | apply Kd.R_alloc | apply Kd.R_drewN | apply Kd.R_drew)); exact HO_3.out) hg hat)).2.1))); have n4_ := Aside0.mk (ho); clear HO_3; clear HB; clear HR134; clear HR145; clear HO141; have HO_3 := n0_; have HB := n1_; have HR134 := n2_; have HR145 := n3_; have HO148 := n4_; clear n0_ n1_ n2_ n3_ n4_; clear ho hb hg hat))
                                repeat (go_quiet (first | ((with_reducible refine gate_dst (N := 36) rfl ?_); refine Kd.R_lit Kd.string _ 9 ?hg (N := 36) ?hd (xs := ([] : List ByteArray)) (inner := []) (ok := fun _ => True) (okp := fun _ => True) ?hr ?hp (fun _ hk => hk) trivial (Below.refl _ _) (Nat.le_refl _) (by simp) ?_; (case hd => rfl); (case hg => rfl); (case hr => first | (go_simp; done) | (go_simp; rfl)); (case hp => exact (Reps.none _ _)); intro v129 w36 ho37 hb hg_ hnew_; clear hg_ hnew_; (first | rw [← Ny128.out] at ho37 | (simp only [Int.reduceToNat] at ho37; rw [← Ny128.out] at ho37)); have n0_ := Aside0.mk (Kd.R_elder' (by (with_reducible repeat (first | apply Kd.R_alloc | apply Kd.R_drewN | apply Kd.R_drew)); exact HO_3.out) (Kd.R_base ho37) hb); have n1_ := Aside0.mk (Kd.R_lower (Kd.R_new' ho37 (Kd.R_lt (by (with_reducible repeat (first | apply Kd.R_alloc | apply Kd.R_drewN | apply Kd.R_drew)); exact HO_3.out))) (below_size (by repeat (first | (with_reducible first | exact HB.out | apply below_alloc | apply pw_below_drewN | apply below_drew1) | exact HB.out)))); have n2_ := Aside0.mk (below_step (by repeat (first | (with_reducible first | exact HB.out | apply below_alloc | apply pw_below_drewN | apply below_drew1) | exact HB.out)) hb); clear HO_3; clear HB; have HO_3 := n0_; have HO130 := n1_; have HB := n2_; clear n0_ n1_ n2_; clear hb ho37; have q38 : (x5_2 : Int) ≤ ((x3_1.length : Int) : Int) := of_decide_eq_true (by first | (with_reducible assumption) | assumption); obtain ⟨i038, hi038, _, hsz38, _⟩ := info_parts info9; have hroom38 : x3_1.length ≤ co7 := (Kd.R_reads' HO_3.out).2.1; have hC38 : Kd.C Kd.string _ Ao7 x3_1.length x3_1 := (Kd.R_reads' HO_3.out).2.2; have hcut38 := cut_to (P := Try.prog) 27 9 .i64 Try.underlying27 hi038 Ao7 x3_1.length co7 x5_2 (of_decide_eq_true (by first | (with_reducible assumption) | assumption)) q38 hroom38; have hr38 := Kd.C_take (m := (x5_2 : Int).toNat) hC38 (by omega); have hy38 : y131.length = (x5_2 : Int).toNat := (by rw [Ny131.out, List.length_take]; omega); rw [← Ny131.out] at hr38; rw [← hy38] at hcut38; have HR134 := Aside0.mk hr38; have HC134 := Aside0.mk (show y131.length ≤ co7 from by omega); clear hr38 hC38 hroom38 hi038 hsz38; have KY38 := Aside0.mk hy38; clear hy38; have KL38 := Aside0.mk (show (x5_2 : Int).toNat ≤ x3_1.length from by omega); replace q38 := eq_true q38) | ((with_reducible refine gate_builtin (b := .append) (xs := #[.tmp 36, .tmp 39]) rfl ?_); at_builtin; refine Kd.R_append_rows Kd.string (w0 := w) w.heap.size rfl (.tmp 36) (.tmp 39) 27 9 (.string ⟨#[]⟩) 16 rfl Try.underlying27 info9 rfl (by decide) (by omega) v129 y128 y131 _ _ _ (fun k_ => some k_ ≠ (.slice Ao7 x3_1.length co7 : Value).ownBlock) (fun _ => False) rfl rfl ?aO ?aR (fun _ _ h => h) (fun _ h => h.elim) ?aF ?aB ?aS ?aL ?_; (case aR => repeat (first | exact (by repeat (first | (with_reducible exact HR134.out) | (with_reducible refine Kd.C_alloc ?_ _) | (with_reducible refine Kd.C_drewN ?_ _) | (with_reducible refine Kd.C_drew ?_) | exact HR134.out)) | (with_reducible refine Kd.C_alloc ?_ _) | (with_reducible refine Kd.C_drewN ?_ _) | (with_reducible refine Kd.C_drew ?_))); (case aB => exact (by repeat (first | (with_reducible first | exact HB.out | apply below_alloc | apply pw_below_drewN | apply below_drew1) | exact HB.out))); (case aF => exact (fun k_ hk => Kd.fresh' (Kd.R_lt (by (with_reducible repeat (first | apply Kd.R_alloc | apply Kd.R_drewN | apply Kd.R_drew)); exact HO_3.out)) k_ hk)); (case aO => exact (by (with_reducible repeat (first | apply Kd.R_alloc | apply Kd.R_drewN | apply Kd.R_drew)); exact Kd.R_mono HO130.out (fun _ hk => hk.2))); (case aS => exact (below_size (by repeat (first | (with_reducible first | exact HB.out | apply below_alloc | apply pw_below_drewN | apply below_drew1) | exact HB.out)))); (case aL => have := LMc29.out; omega); intro v136 w39 ho hb hg hat; rw [← Ny135.out] at ho; have n0_ := Aside0.mk (Kd.R_after (ok := (fun _ => True)) (by (with_reducible repeat (first | apply Kd.R_alloc | apply Kd.R_drewN | apply Kd.R_drew)); exact HO_3.out) hg hat); have n1_ := Aside0.mk (hb); have n2_ := Aside0.mk ((show Kd.C Kd.string w39 Ao7 y131.length y131 from by rw [Ny131.out]; exact Kd.C_take (m := (x5_2 : Int).toNat) ((Kd.R_reads' (Kd.R_after (ok := (fun _ => True)) (by (with_reducible repeat (first | apply Kd.R_alloc | apply Kd.R_drewN | apply Kd.R_drew)); exact HO_3.out) hg hat)).2.2) KL38.out)); have n3_ := Aside0.mk (ho); clear HO_3; clear HB; clear HR134; clear HO130; have HO_3 := n0_; have HB := n1_; have HR134 := n2_; have HO137 := n3_; clear n0_ n1_ n2_ n3_; clear ho hb hg hat; have p138 : 0 ≤ (x4_1 : Int) := of_decide_eq_true (by first | (with_reducible assumption) | assumption); have q138 : x4_1 < (l0.length : Int) := of_decide_eq_true (by first | (with_reducible assumption) | assumption); obtain ⟨ad138, e138, hx138_0⟩ := Kd.at_string HR0.out x4_1 p138 q138; obtain rfl : ad103 = ad138 := (by injection e138); replace hx138_0 := (HB.out.cell (World.block_lt_of_cell? w _ hx138_0)).trans hx138_0; replace p138 := eq_true p138; replace q138 := eq_true q138) | ((with_reducible refine gate_builtin (b := .append) (xs := #[.tmp 41, .tmp 46]) rfl ?_); at_builtin; refine Kd.R_append Kd.string (w0 := w) w.heap.size rfl (.tmp 41) (.tmp 46) 27 9 (.string ⟨#[]⟩) 16 rfl Try.underlying27 info9 rfl (by decide) (by omega) v136 y135 (rdOf ByteArray.empty l0 x4_1) [.string (rdOf ByteArray.empty l0 x4_1)] (fun k_ => some k_ ≠ (.slice Ao7 x3_1.length co7 : Value).ownBlock) (fun _ => False) rfl rfl ?aP (fun _ hk => hk.elim) ?aF ?aO ?aB ?aS ?aL ?_; (case aP => exact rfl); (case aB => exact (by repeat (first | (with_reducible first | exact HB.out | apply below_alloc | apply pw_below_drewN | apply below_drew1) | exact HB.out))); (case aF => exact (fun k_ hk => Kd.fresh' (Kd.R_lt (by (with_reducible repeat (first | apply Kd.R_alloc | apply Kd.R_drewN | apply Kd.R_drew)); exact HO_3.out)) k_ hk)); (case aO => exact (by (with_reducible repeat (first | apply Kd.R_alloc | apply Kd.R_drewN | apply Kd.R_drew)); exact HO137.out)); (case aS => exact (below_size (by repeat (first | (with_reducible first | exact HB.out | apply below_alloc | apply pw_below_drewN | apply below_drew1) | exact HB.out)))); (case aL => have := LMc32.out; omega); intro v140 w40 ho hb hg hat; rw [← Ny139.out] at ho; have n0_ := Aside0.mk (Kd.R_after (ok := (fun _ => True)) (by (with_reducible repeat (first | apply Kd.R_alloc | apply Kd.R_drewN | apply Kd.R_drew)); exact HO_3.out) hg hat); have n1_ := Aside0.mk (hb); have n2_ := Aside0.mk ((show Kd.C Kd.string w40 Ao7 y131.length y131 from by rw [Ny131.out]; exact Kd.C_take (m := (x5_2 : Int).toNat) ((Kd.R_reads' (Kd.R_after (ok := (fun _ => True)) (by (with_reducible repeat (first | apply Kd.R_alloc | apply Kd.R_drewN | apply Kd.R_drew)); exact HO_3.out) hg hat)).2.2) KL38.out)); have n3_ := Aside0.mk (ho); clear HO_3; clear HB; clear HR134; clear HO137; have HO_3 := n0_; have HB := n1_; have HR134 := n2_; have HO141 := n3_; clear n0_ n1_ n2_ n3_; clear ho hb hg hat; have q41 : (x5_2 : Int) ≤ ((x3_1.length : Int) : Int) := of_decide_eq_true (by first | (with_reducible assumption) | assumption); obtain ⟨i041, hi041, _, hsz41, _⟩ := info_parts info9; have hroom41 : x3_1.length ≤ co7 := (Kd.R_reads' HO_3.out).2.1; have hC41 : Kd.C Kd.string _ Ao7 x3_1.length x3_1 := (Kd.R_reads' HO_3.out).2.2; have q041 : (0 : Int) ≤ (x5_2 : Int) := of_decide_eq_true (by first | (with_reducible assumption) | assumption); have hcut41 := cut_from (P := Try.prog) 27 9 .i64 Try.underlying27 hi041 1 hsz41 Ao7 x3_1.length co7 x5_2 q041 q41; have hr41 := Kd.C_drop (m := (x5_2 : Int).toNat) (c := co7) hC41 (by omega) hroom41; obtain ⟨A41, hA41⟩ : ∃ A1, A1 = (if co7 = (x5_2 : Int).toNat then Ao7 else (Ao7 : Option Addr).map (·.add ((x5_2 : Int).toNat * 1))) := ⟨_, rfl⟩; obtain ⟨c41, hc41⟩ : ∃ c1, c1 = co7 - (x5_2 : Int).toNat := ⟨_, rfl⟩; have hy41 : y142.length = x3_1.length - (x5_2 : Int).toNat := (by rw [Ny142.out, List.length_drop] <;> omega); rw [show (x3_1).drop (x5_2 : Int).toNat = y142 from Ny142.out.symm] at hr41; replace hr41 : Kd.C Kd.string _ A41 y142.length y142 := (by rw [hA41]; exact hr41); rw [← hy41, ← hA41, ← hc41] at hcut41; have HR145 := Aside0.mk hr41; have HC145 := Aside0.mk (show y142.length ≤ c41 from by rw [hy41, hc41]; exact Nat.sub_le_sub_right hroom41 _); clear hr41 hC41 hroom41 hi041 hsz41 hc41; have KY41 := Aside0.mk hy41; have KA41 := Aside0.mk hA41; clear hy41 hA41; have KL41 := Aside0.mk (show (x5_2 : Int).toNat ≤ x3_1.length from by omega); replace q41 := eq_true q41) | ((with_reducible refine gate_builtin (b := .append) (xs := #[.tmp 48, .tmp 51]) rfl ?_); at_builtin; refine Kd.R_append_rows Kd.string (w0 := w) w.heap.size rfl (.tmp 48) (.tmp 51) 27 9 (.string ⟨#[]⟩) 16 rfl Try.underlying27 info9 rfl (by decide) (by omega) v140 y139 y142 _ _ _ (fun k_ => some k_ ≠ (.slice Ao7 x3_1.length co7 : Value).ownBlock) (fun _ => False) rfl rfl ?aO ?aR (fun _ _ h => h) (fun _ h => h.elim) ?aF ?aB ?aS ?aL ?_; (case aR => repeat (first | exact (by repeat (first | (with_reducible exact HR145.out) | (with_reducible refine Kd.C_alloc ?_ _) | (with_reducible refine Kd.C_drewN ?_ _) | (with_reducible refine Kd.C_drew ?_) | exact HR145.out)) | (with_reducible refine Kd.C_alloc ?_ _) | (with_reducible refine Kd.C_drewN ?_ _) | (with_reducible refine Kd.C_drew ?_))); (case aB => exact (by repeat (first | (with_reducible first | exact HB.out | apply below_alloc | apply pw_below_drewN | apply below_drew1) | exact HB.out))); (case aF => exact (fun k_ hk => Kd.fresh' (Kd.R_lt (by (with_reducible repeat (first | apply Kd.R_alloc | apply Kd.R_drewN | apply Kd.R_drew)); exact HO_3.out)) k_ hk)); (case aO => exact (by (with_reducible repeat (first | apply Kd.R_alloc | apply Kd.R_drewN | apply Kd.R_drew)); exact HO141.out)); (case aS => exact (below_size (by repeat (first | (with_reducible first | exact HB.out | apply below_alloc | apply pw_below_drewN | apply below_drew1) | exact HB.out)))); (case aL => have := LMc35.out; omega); intro v147 w42 ho hb hg hat; rw [← Ny146.out] at ho; have n0_ := Aside0.mk (Kd.R_after (ok := (fun _ => True)) (by (with_reducible repeat (first | apply Kd.R_alloc | apply Kd.R_drewN | apply Kd.R_drew)); exact HO_3.out) hg hat); have n1_ := Aside0.mk (hb); have n2_ := Aside0.mk ((show Kd.C Kd.string w42 Ao7 y131.length y131 from by rw [Ny131.out]; exact Kd.C_take (m := (x5_2 : Int).toNat) ((Kd.R_reads' (Kd.R_after (ok := (fun _ => True)) (by (with_reducible repeat (first | apply Kd.R_alloc | apply Kd.R_drewN | apply Kd.R_drew)); exact HO_3.out) hg hat)).2.2) KL38.out)); have n3_ := Aside0.mk ((show Kd.C Kd.string w42 A41 y142.length y142 from by rw [Ny142.out, KA41.out]; exact Kd.C_drop (m := (x5_2 : Int).toNat) (c := co7) ((Kd.R_reads' (Kd.R_after (ok := (fun _ => True)) (by (with_reducible repeat (first | apply Kd.R_alloc | apply Kd.R_drewN | apply Kd.R_drew)); exact HO_3.out) hg hat)).2.2) KL41.out ((Kd.R_reads' (Kd.R_after (ok := (fun _ => True)) (by (with_reducible repeat (first | apply Kd.R_alloc | apply Kd.R_drewN | apply Kd.R_drew)); exact HO_3.out) hg hat)).2.1))); have n4_ := Aside0.mk (ho); clear HO_3; clear HB; clear HR134; clear HR145; clear HO141; have HO_3 := n0_; have HB := n1_; have HR134 := n2_; have HR145 := n3_; have HO148 := n4_; clear n0_ n1_ n2_ n3_ n4_; clear ho hb hg hat)); try go_wp2_with (first | ((with_reducible refine gate_dst (N := 36) rfl ?_); refine Kd.R_lit Kd.string _ 9 ?hg (N := 36) ?hd (xs := ([] : List ByteArray)) (inner := []) (ok := fun _ => True) (okp := fun _ => True) ?hr ?hp (fun _ hk => hk) trivial (Below.refl _ _) (Nat.le_refl _) (by simp) ?_; (case hd => rfl); (case hg => rfl); (case hr => first | (go_simp; done) | (go_simp; rfl)); (case hp => exact (Reps.none _ _)); intro v129 w36 ho37 hb hg_ hnew_; clear hg_ hnew_; (first | rw [← Ny128.out] at ho37 | (simp only [Int.reduceToNat] at ho37; rw [← Ny128.out] at ho37)); have n0_ := Aside0.mk (Kd.R_elder' (by (with_reducible repeat (first | apply Kd.R_alloc | apply Kd.R_drewN | apply Kd.R_drew)); exact HO_3.out) (Kd.R_base ho37) hb); have n1_ := Aside0.mk (Kd.R_lower (Kd.R_new' ho37 (Kd.R_lt (by (with_reducible repeat (first | apply Kd.R_alloc | apply Kd.R_drewN | apply Kd.R_drew)); exact HO_3.out))) (below_size (by repeat (first | (with_reducible first | exact HB.out | apply below_alloc | apply pw_below_drewN | apply below_drew1) | exact HB.out)))); have n2_ := Aside0.mk (below_step (by repeat (first | (with_reducible first | exact HB.out | apply below_alloc | apply pw_below_drewN | apply below_drew1) | exact HB.out)) hb); clear HO_3; clear HB; have HO_3 := n0_; have HO130 := n1_; have HB := n2_; clear n0_ n1_ n2_; clear hb ho37; have q38 : (x5_2 : Int) ≤ ((x3_1.length : Int) : Int) := of_decide_eq_true (by first | (with_reducible assumption) | assumption); obtain ⟨i038, hi038, _, hsz38, _⟩ := info_parts info9; have hroom38 : x3_1.length ≤ co7 := (Kd.R_reads' HO_3.out).2.1; have hC38 : Kd.C Kd.string _ Ao7 x3_1.length x3_1 := (Kd.R_reads' HO_3.out).2.2; have hcut38 := cut_to (P := Try.prog) 27 9 .i64 Try.underlying27 hi038 Ao7 x3_1.length co7 x5_2 (of_decide_eq_true (by first | (with_reducible assumption) | assumption)) q38 hroom38; have hr38 := Kd.C_take (m := (x5_2 : Int).toNat) hC38 (by omega); have hy38 : y131.length = (x5_2 : Int).toNat := (by rw [Ny131.out, List.length_take]; omega); rw [← Ny131.out] at hr38; rw [← hy38] at hcut38; have HR134 := Aside0.mk hr38; have HC134 := Aside0.mk (show y131.length ≤ co7 from by omega); clear hr38 hC38 hroom38 hi038 hsz38; have KY38 := Aside0.mk hy38; clear hy38; have KL38 := Aside0.mk (show (x5_2 : Int).toNat ≤ x3_1.length from by omega); replace q38 := eq_true q38) | ((with_reducible refine gate_builtin (b := .append) (xs := #[.tmp 36, .tmp 39]) rfl ?_); at_builtin; refine Kd.R_append_rows Kd.string (w0 := w) w.heap.size rfl (.tmp 36) (.tmp 39) 27 9 (.string ⟨#[]⟩) 16 rfl Try.underlying27 info9 rfl (by decide) (by omega) v129 y128 y131 _ _ _ (fun k_ => some k_ ≠ (.slice Ao7 x3_1.length co7 : Value).ownBlock) (fun _ => False) rfl rfl ?aO ?aR (fun _ _ h => h) (fun _ h => h.elim) ?aF ?aB ?aS ?aL ?_; (case aR => repeat (first | exact (by repeat (first | (with_reducible exact HR134.out) | (with_reducible refine Kd.C_alloc ?_ _) | (with_reducible refine Kd.C_drewN ?_ _) | (with_reducible refine Kd.C_drew ?_) | exact HR134.out)) | (with_reducible refine Kd.C_alloc ?_ _) | (with_reducible refine Kd.C_drewN ?_ _) | (with_reducible refine Kd.C_drew ?_))); (case aB => exact (by repeat (first | (with_reducible first | exact HB.out | apply below_alloc | apply pw_below_drewN | apply below_drew1) | exact HB.out))); (case aF => exact (fun k_ hk => Kd.fresh' (Kd.R_lt (by (with_reducible repeat (first | apply Kd.R_alloc | apply Kd.R_drewN | apply Kd.R_drew)); exact HO_3.out)) k_ hk)); (case aO => exact (by (with_reducible repeat (first | apply Kd.R_alloc | apply Kd.R_drewN | apply Kd.R_drew)); exact Kd.R_mono HO130.out (fun _ hk => hk.2))); (case aS => exact (below_size (by repeat (first | (with_reducible first | exact HB.out | apply below_alloc | apply pw_below_drewN | apply below_drew1) | exact HB.out)))); (case aL => have := LMc29.out; omega); intro v136 w39 ho hb hg hat; rw [← Ny135.out] at ho; have n0_ := Aside0.mk (Kd.R_after (ok := (fun _ => True)) (by (with_reducible repeat (first | apply Kd.R_alloc | apply Kd.R_drewN | apply Kd.R_drew)); exact HO_3.out) hg hat); have n1_ := Aside0.mk (hb); have n2_ := Aside0.mk ((show Kd.C Kd.string w39 Ao7 y131.length y131 from by rw [Ny131.out]; exact Kd.C_take (m := (x5_2 : Int).toNat) ((Kd.R_reads' (Kd.R_after (ok := (fun _ => True)) (by (with_reducible repeat (first | apply Kd.R_alloc | apply Kd.R_drewN | apply Kd.R_drew)); exact HO_3.out) hg hat)).2.2) KL38.out)); have n3_ := Aside0.mk (ho); clear HO_3; clear HB; clear HR134; clear HO130; have HO_3 := n0_; have HB := n1_; have HR134 := n2_; have HO137 := n3_; clear n0_ n1_ n2_ n3_; clear ho hb hg hat; have p138 : 0 ≤ (x4_1 : Int) := of_decide_eq_true (by first | (with_reducible assumption) | assumption); have q138 : x4_1 < (l0.length : Int) := of_decide_eq_true (by first | (with_reducible assumption) | assumption); obtain ⟨ad138, e138, hx138_0⟩ := Kd.at_string HR0.out x4_1 p138 q138; obtain rfl : ad103 = ad138 := (by injection e138); replace hx138_0 := (HB.out.cell (World.block_lt_of_cell? w _ hx138_0)).trans hx138_0; replace p138 := eq_true p138; replace q138 := eq_true q138) | ((with_reducible refine gate_builtin (b := .append) (xs := #[.tmp 41, .tmp 46]) rfl ?_); at_builtin; refine Kd.R_append Kd.string (w0 := w) w.heap.size rfl (.tmp 41) (.tmp 46) 27 9 (.string ⟨#[]⟩) 16 rfl Try.underlying27 info9 rfl (by decide) (by omega) v136 y135 (rdOf ByteArray.empty l0 x4_1) [.string (rdOf ByteArray.empty l0 x4_1)] (fun k_ => some k_ ≠ (.slice Ao7 x3_1.length co7 : Value).ownBlock) (fun _ => False) rfl rfl ?aP (fun _ hk => hk.elim) ?aF ?aO ?aB ?aS ?aL ?_; (case aP => exact rfl); (case aB => exact (by repeat (first | (with_reducible first | exact HB.out | apply below_alloc | apply pw_below_drewN | apply below_drew1) | exact HB.out))); (case aF => exact (fun k_ hk => Kd.fresh' (Kd.R_lt (by (with_reducible repeat (first | apply Kd.R_alloc | apply Kd.R_drewN | apply Kd.R_drew)); exact HO_3.out)) k_ hk)); (case aO => exact (by (with_reducible repeat (first | apply Kd.R_alloc | apply Kd.R_drewN | apply Kd.R_drew)); exact HO137.out)); (case aS => exact (below_size (by repeat (first | (with_reducible first | exact HB.out | apply below_alloc | apply pw_below_drewN | apply below_drew1) | exact HB.out)))); (case aL => have := LMc32.out; omega); intro v140 w40 ho hb hg hat; rw [← Ny139.out] at ho; have n0_ := Aside0.mk (Kd.R_after (ok := (fun _ => True)) (by (with_reducible repeat (first | apply Kd.R_alloc | apply Kd.R_drewN | apply Kd.R_drew)); exact HO_3.out) hg hat); have n1_ := Aside0.mk (hb); have n2_ := Aside0.mk ((show Kd.C Kd.string w40 Ao7 y131.length y131 from by rw [Ny131.out]; exact Kd.C_take (m := (x5_2 : Int).toNat) ((Kd.R_reads' (Kd.R_after (ok := (fun _ => True)) (by (with_reducible repeat (first | apply Kd.R_alloc | apply Kd.R_drewN | apply Kd.R_drew)); exact HO_3.out) hg hat)).2.2) KL38.out)); have n3_ := Aside0.mk (ho); clear HO_3; clear HB; clear HR134; clear HO137; have HO_3 := n0_; have HB := n1_; have HR134 := n2_; have HO141 := n3_; clear n0_ n1_ n2_ n3_; clear ho hb hg hat; have q41 : (x5_2 : Int) ≤ ((x3_1.length : Int) : Int) := of_decide_eq_true (by first | (with_reducible assumption) | assumption); obtain ⟨i041, hi041, _, hsz41, _⟩ := info_parts info9; have hroom41 : x3_1.length ≤ co7 := (Kd.R_reads' HO_3.out).2.1; have hC41 : Kd.C Kd.string _ Ao7 x3_1.length x3_1 := (Kd.R_reads' HO_3.out).2.2; have q041 : (0 : Int) ≤ (x5_2 : Int) := of_decide_eq_true (by first | (with_reducible assumption) | assumption); have hcut41 := cut_from (P := Try.prog) 27 9 .i64 Try.underlying27 hi041 1 hsz41 Ao7 x3_1.length co7 x5_2 q041 q41; have hr41 := Kd.C_drop (m := (x5_2 : Int).toNat) (c := co7) hC41 (by omega) hroom41; obtain ⟨A41, hA41⟩ : ∃ A1, A1 = (if co7 = (x5_2 : Int).toNat then Ao7 else (Ao7 : Option Addr).map (·.add ((x5_2 : Int).toNat * 1))) := ⟨_, rfl⟩; obtain ⟨c41, hc41⟩ : ∃ c1, c1 = co7 - (x5_2 : Int).toNat := ⟨_, rfl⟩; have hy41 : y142.length = x3_1.length - (x5_2 : Int).toNat := (by rw [Ny142.out, List.length_drop] <;> omega); rw [show (x3_1).drop (x5_2 : Int).toNat = y142 from Ny142.out.symm] at hr41; replace hr41 : Kd.C Kd.string _ A41 y142.length y142 := (by rw [hA41]; exact hr41); rw [← hy41, ← hA41, ← hc41] at hcut41; have HR145 := Aside0.mk hr41; have HC145 := Aside0.mk (show y142.length ≤ c41 from by rw [hy41, hc41]; exact Nat.sub_le_sub_right hroom41 _); clear hr41 hC41 hroom41 hi041 hsz41 hc41; have KY41 := Aside0.mk hy41; have KA41 := Aside0.mk hA41; clear hy41 hA41; have KL41 := Aside0.mk (show (x5_2 : Int).toNat ≤ x3_1.length from by omega); replace q41 := eq_true q41) | ((with_reducible refine gate_builtin (b := .append) (xs := #[.tmp 48, .tmp 51]) rfl ?_); at_builtin; refine Kd.R_append_rows Kd.string (w0 := w) w.heap.size rfl (.tmp 48) (.tmp 51) 27 9 (.string ⟨#[]⟩) 16 rfl Try.underlying27 info9 rfl (by decide) (by omega) v140 y139 y142 _ _ _ (fun k_ => some k_ ≠ (.slice Ao7 x3_1.length co7 : Value).ownBlock) (fun _ => False) rfl rfl ?aO ?aR (fun _ _ h => h) (fun _ h => h.elim) ?aF ?aB ?aS ?aL ?_; (case aR => repeat (first | exact (by repeat (first | (with_reducible exact HR145.out) | (with_reducible refine Kd.C_alloc ?_ _) | (with_reducible refine Kd.C_drewN ?_ _) | (with_reducible refine Kd.C_drew ?_) | exact HR145.out)) | (with_reducible refine Kd.C_alloc ?_ _) | (with_reducible refine Kd.C_drewN ?_ _) | (with_reducible refine Kd.C_drew ?_))); (case aB => exact (by repeat (first | (with_reducible first | exact HB.out | apply below_alloc | apply pw_below_drewN | apply below_drew1) | exact HB.out))); (case aF => exact (fun k_ hk => Kd.fresh' (Kd.R_lt (by (with_reducible repeat (first | apply Kd.R_alloc | apply Kd.R_drewN | apply Kd.R_drew)); exact HO_3.out)) k_ hk)); (case aO => exact (by (with_reducible repeat (first | apply Kd.R_alloc | apply Kd.R_drewN | apply Kd.R_drew)); exact HO141.out)); (case aS => exact (below_size (by repeat (first | (with_reducible first | exact HB.out | apply below_alloc | apply pw_below_drewN | apply below_drew1) | exact HB.out)))); (case aL => have := LMc35.out; omega); intro v147 w42 ho hb hg hat; rw [← Ny146.out] at ho; have n0_ := Aside0.mk (Kd.R_after (ok := (fun _ => True)) (by (with_reducible repeat (first | apply Kd.R_alloc | apply Kd.R_drewN | apply Kd.R_drew)); exact HO_3.out) hg hat); have n1_ := Aside0.mk (hb); have n2_ := Aside0.mk ((show Kd.C Kd.string w42 Ao7 y131.length y131 from by rw [Ny131.out]; exact Kd.C_take (m := (x5_2 : Int).toNat) ((Kd.R_reads' (Kd.R_after (ok := (fun _ => True)) (by (with_reducible repeat (first | apply Kd.R_alloc | apply Kd.R_drewN | apply Kd.R_drew)); exact HO_3.out) hg hat)).2.2) KL38.out)); have n3_ := Aside0.mk ((show Kd.C Kd.string w42 A41 y142.length y142 from by rw [Ny142.out, KA41.out]; exact Kd.C_drop (m := (x5_2 : Int).toNat) (c := co7) ((Kd.R_reads' (Kd.R_after (ok := (fun _ => True)) (by (with_reducible repeat (first | apply Kd.R_alloc | apply Kd.R_drewN | apply Kd.R_drew)); exact HO_3.out) hg hat)).2.2) KL41.out ((Kd.R_reads' (Kd.R_after (ok := (fun _ => True)) (by (with_reducible repeat (first | apply Kd.R_alloc | apply Kd.R_drewN | apply Kd.R_drew)); exact HO_3.out) hg hat)).2.1))); have n4_ := Aside0.mk (ho); clear HO_3; clear HB; clear HR134; clear HR145; clear HO141; have HO_3 := n0_; have HB := n1_; have HR134 := n2_; have HR145 := n3_; have HO148 := n4_; clear n0_ n1_ n2_ n3_ n4_; clear ho hb hg hat)))
                                go_roundg k2
                                case measure => have := HK1.out; have := HK2.out; omega
                                case rel => exact ⟨(y146), (wrap64 (x4_1 + 1)), (by first | rfl | (simp; done) | (simp [*]; done)), H', ⟨by have := HK1.out; have := HK2.out; omega⟩, ⟨by (with_reducible repeat (first | apply Kd.R_alloc | apply Kd.R_drewN | apply Kd.R_drew)); exact Kd.R_mono HO148.out (fun _ hk => trivial)⟩, ⟨by repeat (first | (with_reducible first | exact HB.out | apply below_alloc | apply pw_below_drewN | apply below_drew1) | exact HB.out)⟩⟩
                              · rw [if_neg c35] at H
                                exact absurd H (by simp)
                            · rw [if_neg c32] at H
                              exact absurd H (by simp)
                          · rw [if_neg c31] at H
                            exact absurd H (by simp)
                        · rw [if_neg c30] at H
                          exact absurd H (by simp)
                      · rw [if_neg c29] at H
                        exact absurd H (by simp)
                    · rw [if_neg c28] at H
                      exact absurd H (by simp)
                  · rw [if_neg c27] at H
                    exact absurd H (by simp)
        · rw [if_neg c3] at H
          exact absurd H (by simp)
      · rw [if_neg c2] at H
        have c2b0 : decide (x4_1 < (l0.length : Int)) = false := decide_eq_false c2
        clear c2
        obtain rfl := Option.some.inj H
        go_wp2
        repeat (go_quiet (fail); try go_wp2)
        go_ret
        exact ⟨_, by first | rfl | (simp [errW_none, errW_some] <;> rfl) | (simp [*, errW_none, errW_some] <;> rfl), by (with_reducible repeat (first | apply Kd.R_alloc | apply Kd.R_drewN | apply Kd.R_drew)); exact HO_3.out, by repeat (first | (with_reducible first | exact HB.out | apply below_alloc | apply pw_below_drewN | apply below_drew1) | exact HB.out)⟩

/-! ### spec_KeysUnion_string: function 37 -/
def spec_KeysUnion_string.f (k : Nat) (l0 : List ByteArray) (l1 : List ByteArray) : Option (List ByteArray) := (some (([] : List ByteArray) : List ByteArray)).bind fun y149 => (if y149.length + l0.length < 8796093022208 then ((some (y149 ++ l0 : List ByteArray)).bind fun y152 => (if y152.length + l1.length < 8796093022208 then ((spec_Keys_string.f k (y152 ++ l1)).bind fun t158 => (some t158)) else (none))) else (none))
theorem spec_KeysUnion_string.mono : ∀ a0 a1 k, LeO (spec_KeysUnion_string.f k a0 a1) (spec_KeysUnion_string.f (k + 1) a0 a1) := by
  intro a0 a1 k
  unfold spec_KeysUnion_string.f
  repeat' first
      | (with_reducible exact spec_Keys_string.mono _ _)
      | (with_reducible exact LeO.refl _)
      | (with_reducible exact LeO.none _)
      | (with_reducible refine LeO.ite ?_ ?_)
      | (with_reducible refine LeO.bind ?_ (fun _ => ?_))
      | exact spec_Keys_string.mono _ _
      | exact LeO.none _
      | refine LeO.ite ?_ ?_
      | refine LeO.bind ?_ (fun _ => ?_)
set_option maxHeartbeats 8000000 in
set_option maxRecDepth 100000 in
theorem spec_KeysUnion_string.calls (k : Nat) (A0 : Option Addr) (c0 : Nat) (l0 : List ByteArray) (A1 : Option Addr) (c1 : Nat) (l1 : List ByteArray) (r : List ByteArray) (w : World) (hr0 : Kd.C Kd.string w A0 l0.length l0) (hc0 : l0.length ≤ c0) (hr1 : Kd.C Kd.string w A1 l1.length l1) (hc1 : l1.length ≤ c1) (h : spec_KeysUnion_string.f k l0 l1 = some r) :
    Calls Try.prog 37 #[.slice A0 l0.length c0, .slice A1 l1.length c1] w fun e w' => ∃ v0_ : Value, e = .returned (v0_) ∧ Kd.R Kd.string 9 w' w.heap.size (fun _ => True) v0_ r ∧ Below w.heap.size w w' := by
  have HR0 := Aside0.mk hr0
  have HC0 := Aside0.mk hc0
  clear hr0 hc0
  have HR1 := Aside0.mk hr1
  have HC1 := Aside0.mk hc1
  clear hr1 hc1
  have HB := Aside0.mk (Below.refl w.heap.size w)
  have H : ((some (([] : List ByteArray) : List ByteArray)).bind fun y149 => (if y149.length + l0.length < 8796093022208 then ((some (y149 ++ l0 : List ByteArray)).bind fun y152 => (if y152.length + l1.length < 8796093022208 then ((spec_Keys_string.f k (y152 ++ l1)).bind fun t158 => (some t158)) else (none))) else (none))) = some r := h
  clear h
  obtain ⟨y149, hy149⟩ : ∃ y_ : List ByteArray, y_ = (([] : List ByteArray)) := ⟨_, rfl⟩
  replace H : (if y149.length + l0.length < 8796093022208 then ((some (y149 ++ l0 : List ByteArray)).bind fun y152 => (if y152.length + l1.length < 8796093022208 then ((spec_Keys_string.f k (y152 ++ l1)).bind fun t158 => (some t158)) else (none))) else (none)) = some r := by first | (rw [hy149]; with_reducible exact H) | (have H2_ := (Option.bind_some _ _).symm.trans H; rw [hy149]; with_reducible exact H2_) | (have H2_ := (Option.bind_some _ _).symm.trans H; with_reducible exact H2_) | with_reducible exact H | (rw [hy149]; exact H) | exact H
  have Ny149 := Aside0.mk hy149
  clear hy149
  by_cases c3 : y149.length + l0.length < 8796093022208
  · rw [if_pos c3] at H
    have LMc3 := Aside0.mk c3
    clear c3
    obtain ⟨y152, hy152⟩ : ∃ y_ : List ByteArray, y_ = (y149 ++ l0) := ⟨_, rfl⟩
    replace H : (if y152.length + l1.length < 8796093022208 then ((spec_Keys_string.f k (y152 ++ l1)).bind fun t158 => (some t158)) else (none)) = some r := by first | (rw [hy152]; with_reducible exact H) | (have H2_ := (Option.bind_some _ _).symm.trans H; rw [hy152]; with_reducible exact H2_) | (have H2_ := (Option.bind_some _ _).symm.trans H; with_reducible exact H2_) | with_reducible exact H | (rw [hy152]; exact H) | exact H
    have Ny152 := Aside0.mk hy152
    clear hy152
    by_cases c4 : y152.length + l1.length < 8796093022208
    · rw [if_pos c4] at H
      have LMc4 := Aside0.mk c4
      clear c4
      obtain ⟨y155, hy155⟩ : ∃ y_ : List ByteArray, y_ = (y152 ++ l1) := ⟨_, rfl⟩
      replace H : ((spec_Keys_string.f k y155).bind fun t158 => (some t158)) = some r := by first | (rw [hy155]; with_reducible exact H) | (have H2_ := (Option.bind_some _ _).symm.trans H; rw [hy155]; with_reducible exact H2_) | (have H2_ := (Option.bind_some _ _).symm.trans H; with_reducible exact H2_) | with_reducible exact H | (rw [hy155]; exact H) | exact H
      have Ny155 := Aside0.mk hy155
      clear hy155
      replace H := Option.bind_eq_some_iff.mp H
      obtain ⟨t158, A50, H⟩ := H
      replace H : (some t158) = some r := H
      have A5 := Aside0.mk A50
      clear A50
      obtain rfl := Option.some.inj H
      go_enter Try.func37, Try.ntmps37
      go_wp2_with (first | ((with_reducible refine gate_dst (N := 5) rfl ?_); refine Kd.R_lit Kd.string _ 9 ?hg (N := 5) ?hd (xs := ([] : List ByteArray)) (inner := []) (ok := fun _ => True) (okp := fun _ => True) ?hr ?hp (fun _ hk => hk) trivial (Below.refl _ _) (Nat.le_refl _) (by simp) ?_; (case hd => rfl); (case hg => rfl); (case hr => first | (go_simp; done) | (go_simp; rfl)); (case hp => exact (Reps.none _ _)); intro v150 w6 ho7 hb hg_ hnew_; clear hg_ hnew_; (first | rw [← Ny149.out] at ho7 | (simp only [Int.reduceToNat] at ho7; rw [← Ny149.out] at ho7)); have n0_ := Aside0.mk (Kd.R_lower ho7 (below_size (by repeat (first | (with_reducible first | exact HB.out | apply below_alloc | apply pw_below_drewN | apply below_drew1) | exact HB.out)))); have n1_ := Aside0.mk (below_step (by repeat (first | (with_reducible first | exact HB.out | apply below_alloc | apply pw_below_drewN | apply below_drew1) | exact HB.out)) hb); clear HB; have HO151 := n0_; have HB := n1_; clear n0_ n1_; clear hb ho7) | ((with_reducible refine gate_builtin (b := .append) (xs := #[.tmp 5, .tmp 6]) rfl ?_); at_builtin; refine Kd.R_append_rows Kd.string (w0 := w) w.heap.size rfl (.tmp 5) (.tmp 6) 27 9 (.string ⟨#[]⟩) 16 rfl Try.underlying27 info9 rfl (by decide) (by omega) v150 y149 l0 _ _ _ (fun _ => True) (fun _ => False) rfl rfl ?aO ?aR (fun _ _ h => h) (fun _ h => h.elim) ?aF ?aB ?aS ?aL ?_; (case aR => repeat (first | exact (Kd.C_below HR0.out HB.out) | (with_reducible refine Kd.C_alloc ?_ _) | (with_reducible refine Kd.C_drewN ?_ _) | (with_reducible refine Kd.C_drew ?_))); (case aB => exact (by repeat (first | (with_reducible first | exact HB.out | apply below_alloc | apply pw_below_drewN | apply below_drew1) | exact HB.out))); (case aF => exact (fun _ _ => trivial)); (case aO => exact (by (with_reducible repeat (first | apply Kd.R_alloc | apply Kd.R_drewN | apply Kd.R_drew)); exact HO151.out)); (case aS => exact (below_size (by repeat (first | (with_reducible first | exact HB.out | apply below_alloc | apply pw_below_drewN | apply below_drew1) | exact HB.out)))); (case aL => have := LMc3.out; omega); intro v153 w8 ho hb hg hat; rw [← Ny152.out] at ho; have n0_ := Aside0.mk (hb); have n1_ := Aside0.mk (ho); clear HB; clear HO151; have HB := n0_; have HO154 := n1_; clear n0_ n1_; clear ho hb hg hat) | ((with_reducible refine gate_builtin (b := .append) (xs := #[.tmp 7, .tmp 8]) rfl ?_); at_builtin; refine Kd.R_append_rows Kd.string (w0 := w) w.heap.size rfl (.tmp 7) (.tmp 8) 27 9 (.string ⟨#[]⟩) 16 rfl Try.underlying27 info9 rfl (by decide) (by omega) v153 y152 l1 _ _ _ (fun _ => True) (fun _ => False) rfl rfl ?aO ?aR (fun _ _ h => h) (fun _ h => h.elim) ?aF ?aB ?aS ?aL ?_; (case aR => repeat (first | exact (Kd.C_below HR1.out HB.out) | (with_reducible refine Kd.C_alloc ?_ _) | (with_reducible refine Kd.C_drewN ?_ _) | (with_reducible refine Kd.C_drew ?_))); (case aB => exact (by repeat (first | (with_reducible first | exact HB.out | apply below_alloc | apply pw_below_drewN | apply below_drew1) | exact HB.out))); (case aF => exact (fun _ _ => trivial)); (case aO => exact (by (with_reducible repeat (first | apply Kd.R_alloc | apply Kd.R_drewN | apply Kd.R_drew)); exact HO154.out)); (case aS => exact (below_size (by repeat (first | (with_reducible first | exact HB.out | apply below_alloc | apply pw_below_drewN | apply below_drew1) | exact HB.out)))); (case aL => have := LMc4.out; omega); intro v156 w9 ho hb hg hat; rw [← Ny155.out] at ho; have n0_ := Aside0.mk (hb); have n1_ := Aside0.mk (ho); clear HB; clear HO154; have HB := n0_; have HO157 := n1_; clear n0_ n1_; clear ho hb hg hat; obtain ⟨Ao10, co10, eo10⟩ := Kd.R_slice HO157.out; subst eo10) | ((with_reducible refine gate_callee (f := 18) rfl ?_); refine goesL_ (some 10) rfl rfl Try.func18 (by kernel_rfl) rfl #[.slice Ao10 y155.length co10] rfl (by (try simp only [List.map_toArray, List.map_cons, List.map_nil]); first | done | rfl | (simp only [List.length_drop, List.length_take]; rfl)) ?_; (with_reducible refine (spec_Keys_string.calls k _ _ y155 t158 _ ?side1 ?side2 A5.out).mono ?_); (case side1 => repeat (first | exact (Kd.R_reads' HO157.out).2.2 | (with_reducible refine Kd.C_alloc ?_ _) | (with_reducible refine Kd.C_drewN ?_ _) | (with_reducible refine Kd.C_drew ?_))); (case side2 => exact (Kd.R_reads' HO157.out).2.1); rintro e w11 ⟨v159, rfl, ho0, hb⟩; refine ⟨_, rfl, ?_⟩; have n0_ := Aside0.mk (Kd.R_elder' (by (with_reducible repeat (first | apply Kd.R_alloc | apply Kd.R_drewN | apply Kd.R_drew)); exact HO157.out) (Kd.R_base ho0) hb); have n1_ := Aside0.mk (Kd.R_lower (Kd.R_new' ho0 (Kd.R_lt (by (with_reducible repeat (first | apply Kd.R_alloc | apply Kd.R_drewN | apply Kd.R_drew)); exact HO157.out))) (below_size (by repeat (first | (with_reducible first | exact HB.out | apply below_alloc | apply pw_below_drewN | apply below_drew1) | exact HB.out)))); have n2_ := Aside0.mk (below_step (by repeat (first | (with_reducible first | exact HB.out | apply below_alloc | apply pw_below_drewN | apply below_drew1) | exact HB.out)) hb); clear HO157; clear HB; have HO157 := n0_; have HO160 := n1_; have HB := n2_; clear n0_ n1_ n2_; (try clear hb); (try clear hb2); (try clear hk); (try clear hi); (try clear ho0)))
      go_ret
      exact ⟨_, by first | rfl | (simp [errW_none, errW_some] <;> rfl) | (simp [*, errW_none, errW_some] <;> rfl), by (with_reducible repeat (first | apply Kd.R_alloc | apply Kd.R_drewN | apply Kd.R_drew)); exact Kd.R_mono HO160.out (fun _ hk => trivial), by repeat (first | (with_reducible first | exact HB.out | apply below_alloc | apply pw_below_drewN | apply below_drew1) | exact HB.out)⟩
    · rw [if_neg c4] at H
      exact absurd H (by simp)
  · rw [if_neg c3] at H
    exact absurd H (by simp)

/-! ### spec_KeysBoth_string: function 38 -/
def spec_KeysBoth_string.l0 : Nat → List ByteArray → List ByteArray → List ByteArray → Int → Option (List ByteArray)
  | 0, _, _, _, _ => none
  | k + 1, x0, x1, x5, x6 => if x6 < (x0.length : Int) then (if 0 ≤ x6 then ((spec_keyIn_string.f k x1 (rdOf ByteArray.empty x0 x6)).bind fun t162 => (if t162 = true then (if x5.length < 8796093022208 then (spec_KeysBoth_string.l0 k x0 x1 (x5 ++ [rdOf ByteArray.empty x0 x6]) (wrap64 (x6 + 1))) else (none)) else (spec_KeysBoth_string.l0 k x0 x1 x5 (wrap64 (x6 + 1))))) else (none)) else ((spec_Keys_string.f k x5).bind fun t167 => (some t167))
def spec_KeysBoth_string.f (k : Nat) (l0 : List ByteArray) (l1 : List ByteArray) : Option (List ByteArray) := spec_KeysBoth_string.l0 k l0 l1 ([] : List ByteArray) 0
theorem spec_KeysBoth_string.mono_l : ∀ k, (∀ y0 y1 y2 y3, LeO (spec_KeysBoth_string.l0 k y0 y1 y2 y3) (spec_KeysBoth_string.l0 (k + 1) y0 y1 y2 y3))
  | 0 => fun _ _ _ _ r h => by simp [spec_KeysBoth_string.l0] at h
  | k + 1 => by
    have ih0 := spec_KeysBoth_string.mono_l k
    · intro y0 y1 y2 y3
      unfold spec_KeysBoth_string.l0
      repeat' first
      | (with_reducible exact ih0 _ _ _ _)
      | (with_reducible exact spec_Keys_string.mono _ _)
      | (with_reducible exact spec_keyIn_string.mono _ _ _)
      | (with_reducible exact LeO.refl _)
      | (with_reducible exact LeO.none _)
      | (with_reducible refine LeO.ite ?_ ?_)
      | (with_reducible refine LeO.bind ?_ (fun _ => ?_))
      | exact ih0 _ _ _ _
      | exact spec_Keys_string.mono _ _
      | exact spec_keyIn_string.mono _ _ _
      | exact LeO.none _
      | refine LeO.ite ?_ ?_
      | refine LeO.bind ?_ (fun _ => ?_)
theorem spec_KeysBoth_string.mono : ∀ a0 a1 k, LeO (spec_KeysBoth_string.f k a0 a1) (spec_KeysBoth_string.f (k + 1) a0 a1) := by
  intro a0 a1 k
  have ih0 := spec_KeysBoth_string.mono_l k
  unfold spec_KeysBoth_string.f
  repeat' first
      | (with_reducible exact ih0 _ _ _ _)
      | (with_reducible exact spec_Keys_string.mono _ _)
      | (with_reducible exact spec_keyIn_string.mono _ _ _)
      | (with_reducible exact LeO.refl _)
      | (with_reducible exact LeO.none _)
      | (with_reducible refine LeO.ite ?_ ?_)
      | (with_reducible refine LeO.bind ?_ (fun _ => ?_))
      | exact ih0 _ _ _ _
      | exact spec_Keys_string.mono _ _
      | exact spec_keyIn_string.mono _ _ _
      | exact LeO.none _
      | refine LeO.ite ?_ ?_
      | refine LeO.bind ?_ (fun _ => ?_)
set_option maxHeartbeats 8000000 in
set_option maxRecDepth 100000 in
theorem spec_KeysBoth_string.calls (k : Nat) (A0 : Option Addr) (c0 : Nat) (l0 : List ByteArray) (A1 : Option Addr) (c1 : Nat) (l1 : List ByteArray) (r : List ByteArray) (w : World) (hr0 : Kd.C Kd.string w A0 l0.length l0) (hc0 : l0.length ≤ c0) (hr1 : Kd.C Kd.string w A1 l1.length l1) (hc1 : l1.length ≤ c1) (h : spec_KeysBoth_string.f k l0 l1 = some r) :
    Calls Try.prog 38 #[.slice A0 l0.length c0, .slice A1 l1.length c1] w fun e w' => ∃ v0_ : Value, e = .returned (v0_) ∧ Kd.R Kd.string 9 w' w.heap.size (fun _ => True) v0_ r ∧ Below w.heap.size w w' := by
  have HR0 := Aside0.mk hr0
  have HC0 := Aside0.mk hc0
  clear hr0 hc0
  have HR1 := Aside0.mk hr1
  have HC1 := Aside0.mk hc1
  clear hr1 hc1
  have HB := Aside0.mk (Below.refl w.heap.size w)
  have H : (spec_KeysBoth_string.l0 k l0 l1 ([] : List ByteArray) 0) = some r := h
  clear h
  have H' := Aside0.mk H
  clear H
  go_enter Try.func38, Try.ntmps38
  go_wp2
  go_loopg [5, 6] k (fun kq v5 v6 w' => ∃ (x5_1 : List ByteArray) (x6_1 : Int), v6 = .int .i64 x6_1 ∧ Aside0 (spec_KeysBoth_string.l0 kq l0 l1 x5_1 x6_1 = some r) ∧ Aside0 (kq ≤ k) ∧ Aside0 (Kd.R Kd.string 9 w' w.heap.size (fun _ => True) v5 x5_1) ∧ Aside0 (Below w.heap.size w w'))
  case atStart => exact ⟨(([] : List ByteArray)), (0), (by first | rfl | (simp; done) | (simp [*]; done)), H', ⟨Nat.le_refl _⟩, ⟨by first | exact Kd.R_nil _ _ _ _ _ | exact Kd.N_nil _ _ _ _ _ | exact Kd.V_nil _ _ _ _ _ | exact Kd.Q_nil _ _ _ _ _ | exact Kd.S_nil _ _ _ _ _⟩, ⟨by repeat (first | (with_reducible first | exact HB.out | apply below_alloc | apply pw_below_drewN | apply below_drew1) | exact HB.out)⟩⟩
  case round =>
    clear H'
    try clear c1
    try clear p2
    obtain ⟨x5_1, x6_1, rfl, HA, HK1, HO_5, HB⟩ := hrel
    cases gk with
    | zero => exact absurd HA.out (by simp [spec_KeysBoth_string.l0])
    | succ k1 =>
      have H := HA.out
      clear HA
      simp only [spec_KeysBoth_string.l0] at H
      by_cases c3 : x6_1 < (l0.length : Int)
      · rw [if_pos c3] at H
        have c3b0 : decide (x6_1 < (l0.length : Int)) = true := decide_eq_true c3
        clear c3
        by_cases c4 : 0 ≤ x6_1
        · rw [if_pos c4] at H
          have c4b0 : decide (0 ≤ x6_1) = true := decide_eq_true c4
          clear c4
          replace H := Option.bind_eq_some_iff.mp H
          obtain ⟨t162, A50, H⟩ := H
          replace H : (if t162 = true then (if x5_1.length < 8796093022208 then (spec_KeysBoth_string.l0 k1 l0 l1 (x5_1 ++ [rdOf ByteArray.empty l0 x6_1]) (wrap64 (x6_1 + 1))) else (none)) else (spec_KeysBoth_string.l0 k1 l0 l1 x5_1 (wrap64 (x6_1 + 1)))) = some r := H
          have A5 := Aside0.mk A50
          clear A50
          by_cases c6 : t162 = true
          · subst c6
            have H1 : (if x5_1.length < 8796093022208 then (spec_KeysBoth_string.l0 k1 l0 l1 (x5_1 ++ [rdOf ByteArray.empty l0 x6_1]) (wrap64 (x6_1 + 1))) else (none)) = some r := by rw [if_pos rfl] at H; exact H
            clear H
            have H := H1
            clear H1
            by_cases c7 : x5_1.length < 8796093022208
            · rw [if_pos c7] at H
              have LMc7 := Aside0.mk c7
              clear c7
              obtain ⟨y164, hy164⟩ : ∃ y_ : List ByteArray, y_ = (x5_1 ++ [rdOf ByteArray.empty l0 x6_1]) := ⟨_, rfl⟩
              replace H : (spec_KeysBoth_string.l0 k1 l0 l1 y164 (wrap64 (x6_1 + 1))) = some r := by first | (rw [hy164]; with_reducible exact H) | (have H2_ := (Option.bind_some _ _).symm.trans H; rw [hy164]; with_reducible exact H2_) | (have H2_ := (Option.bind_some _ _).symm.trans H; with_reducible exact H2_) | with_reducible exact H | (rw [hy164]; exact H) | exact H
              have Ny164 := Aside0.mk hy164
              clear hy164
              have H' := Aside0.mk H
              clear H
              have p161 : 0 ≤ (x6_1 : Int) := of_decide_eq_true (by first | (with_reducible assumption) | assumption)
              have q161 : x6_1 < (l0.length : Int) := of_decide_eq_true (by first | (with_reducible assumption) | assumption)
              obtain ⟨ad161, e161, hx161_0⟩ := Kd.at_string HR0.out x6_1 p161 q161
              cases e161
              replace hx161_0 := (HB.out.cell (World.block_lt_of_cell? w _ hx161_0)).trans hx161_0
              replace p161 := eq_true p161
              replace q161 := eq_true q161
              go_wp2_with (first | ((with_reducible refine gate_callee (f := 42) rfl ?_); refine goesL_ (some 18) rfl rfl Try.func42 (by kernel_rfl) rfl #[.slice A1 l1.length c1, .string (rdOf ByteArray.empty l0 x6_1)] rfl (by (try simp only [List.map_toArray, List.map_cons, List.map_nil]); first | done | rfl | (simp only [List.length_drop, List.length_take]; rfl)) ?_; (with_reducible refine (spec_keyIn_string.calls k1 _ _ l1 (rdOf ByteArray.empty l0 x6_1) true _ ?side1 ?side2 A5.out).mono ?_); (case side1 => repeat (first | exact (Kd.C_below HR1.out HB.out) | (with_reducible refine Kd.C_alloc ?_ _) | (with_reducible refine Kd.C_drewN ?_ _) | (with_reducible refine Kd.C_drew ?_))); (case side2 => exact HC1.out); rintro e w' ⟨rfl, ⟨nd, rfl⟩⟩; refine ⟨_, rfl, ?_⟩; have p163 : 0 ≤ (x6_1 : Int) := of_decide_eq_true (by first | (with_reducible assumption) | assumption); have q163 : x6_1 < (l0.length : Int) := of_decide_eq_true (by first | (with_reducible assumption) | assumption); obtain ⟨ad163, e163, hx163_0⟩ := Kd.at_string HR0.out x6_1 p163 q163; obtain rfl : ad161 = ad163 := (by injection e163); replace hx163_0 := (HB.out.cell (World.block_lt_of_cell? w _ hx163_0)).trans hx163_0; replace p163 := eq_true p163; replace q163 := eq_true q163) | ((with_reducible refine gate_builtin (b := .append) (xs := #[.tmp 19, .tmp 24]) rfl ?_); at_builtin; refine Kd.R_append Kd.string (w0 := w) w.heap.size rfl (.tmp 19) (.tmp 24) 27 9 (.string ⟨#[]⟩) 16 rfl Try.underlying27 info9 rfl (by decide) (by omega) u5 x5_1 (rdOf ByteArray.empty l0 x6_1) [.string (rdOf ByteArray.empty l0 x6_1)] (fun _ => True) (fun _ => False) rfl rfl ?aP (fun _ hk => hk.elim) ?aF ?aO ?aB ?aS ?aL ?_; (case aP => exact rfl); (case aB => exact (by repeat (first | (with_reducible first | exact HB.out | apply below_alloc | apply pw_below_drewN | apply below_drew1) | exact HB.out))); (case aF => exact (fun _ _ => trivial)); (case aO => exact (by (with_reducible repeat (first | apply Kd.R_alloc | apply Kd.R_drewN | apply Kd.R_drew)); exact HO_5.out)); (case aS => exact (below_size (by repeat (first | (with_reducible first | exact HB.out | apply below_alloc | apply pw_below_drewN | apply below_drew1) | exact HB.out)))); (case aL => have := LMc7.out; omega); intro v165 w8 ho hb hg hat; rw [← Ny164.out] at ho; have n0_ := Aside0.mk (hb); have n1_ := Aside0.mk (ho); clear HB; clear HO_5; have HB := n0_; have HO166 := n1_; clear n0_ n1_; clear ho hb hg hat))
              go_roundg k1
              case measure => have := HK1.out; omega
              case rel => exact ⟨(y164), (wrap64 (x6_1 + 1)), (by first | rfl | (simp; done) | (simp [*]; done)), H', ⟨by have := HK1.out; omega⟩, ⟨by (with_reducible repeat (first | apply Kd.R_alloc | apply Kd.R_drewN | apply Kd.R_drew)); exact HO166.out⟩, ⟨by repeat (first | (with_reducible first | exact HB.out | apply below_alloc | apply pw_below_drewN | apply below_drew1) | exact HB.out)⟩⟩
            · rw [if_neg c7] at H
              exact absurd H (by simp)
          · replace c6 := Bool.eq_false_iff.mpr c6
            subst c6
            have H1 : (spec_KeysBoth_string.l0 k1 l0 l1 x5_1 (wrap64 (x6_1 + 1))) = some r := by rw [if_neg (show ¬ (false = true) by decide)] at H; exact H
            clear H
            have H := H1
            clear H1
            have H' := Aside0.mk H
            clear H
            have p161 : 0 ≤ (x6_1 : Int) := of_decide_eq_true (by first | (with_reducible assumption) | assumption)
            have q161 : x6_1 < (l0.length : Int) := of_decide_eq_true (by first | (with_reducible assumption) | assumption)
            obtain ⟨ad161, e161, hx161_0⟩ := Kd.at_string HR0.out x6_1 p161 q161
            cases e161
            replace hx161_0 := (HB.out.cell (World.block_lt_of_cell? w _ hx161_0)).trans hx161_0
            replace p161 := eq_true p161
            replace q161 := eq_true q161
            go_wp2_with (first | ((with_reducible refine gate_callee (f := 42) rfl ?_); refine goesL_ (some 18) rfl rfl Try.func42 (by kernel_rfl) rfl #[.slice A1 l1.length c1, .string (rdOf ByteArray.empty l0 x6_1)] rfl (by (try simp only [List.map_toArray, List.map_cons, List.map_nil]); first | done | rfl | (simp only [List.length_drop, List.length_take]; rfl)) ?_; (with_reducible refine (spec_keyIn_string.calls k1 _ _ l1 (rdOf ByteArray.empty l0 x6_1) false _ ?side1 ?side2 A5.out).mono ?_); (case side1 => repeat (first | exact (Kd.C_below HR1.out HB.out) | (with_reducible refine Kd.C_alloc ?_ _) | (with_reducible refine Kd.C_drewN ?_ _) | (with_reducible refine Kd.C_drew ?_))); (case side2 => exact HC1.out); rintro e w' ⟨rfl, ⟨nd, rfl⟩⟩; refine ⟨_, rfl, ?_⟩))
            go_roundg k1
            case measure => have := HK1.out; omega
            case rel => exact ⟨(x5_1), (wrap64 (x6_1 + 1)), (by first | rfl | (simp; done) | (simp [*]; done)), H', ⟨by have := HK1.out; omega⟩, ⟨by (with_reducible repeat (first | apply Kd.R_alloc | apply Kd.R_drewN | apply Kd.R_drew)); exact HO_5.out⟩, ⟨by repeat (first | (with_reducible first | exact HB.out | apply below_alloc | apply pw_below_drewN | apply below_drew1) | exact HB.out)⟩⟩
        · rw [if_neg c4] at H
          exact absurd H (by simp)
      · rw [if_neg c3] at H
        have c3b0 : decide (x6_1 < (l0.length : Int)) = false := decide_eq_false c3
        clear c3
        replace H := Option.bind_eq_some_iff.mp H
        obtain ⟨t167, A90, H⟩ := H
        replace H : (some t167) = some r := H
        have A9 := Aside0.mk A90
        clear A90
        obtain rfl := Option.some.inj H
        obtain ⟨Ao10, co10, eo10⟩ := Kd.R_slice HO_5.out
        subst eo10
        go_wp2_with (first | ((with_reducible refine gate_callee (f := 18) rfl ?_); refine goesL_ (some 27) rfl rfl Try.func18 (by kernel_rfl) rfl #[.slice Ao10 x5_1.length co10] rfl (by (try simp only [List.map_toArray, List.map_cons, List.map_nil]); first | done | rfl | (simp only [List.length_drop, List.length_take]; rfl)) ?_; (with_reducible refine (spec_Keys_string.calls k1 _ _ x5_1 t167 _ ?side1 ?side2 A9.out).mono ?_); (case side1 => repeat (first | exact (Kd.R_reads' HO_5.out).2.2 | (with_reducible refine Kd.C_alloc ?_ _) | (with_reducible refine Kd.C_drewN ?_ _) | (with_reducible refine Kd.C_drew ?_))); (case side2 => exact (Kd.R_reads' HO_5.out).2.1); rintro e w11 ⟨v168, rfl, ho0, hb⟩; refine ⟨_, rfl, ?_⟩; have n0_ := Aside0.mk (Kd.R_elder' (by (with_reducible repeat (first | apply Kd.R_alloc | apply Kd.R_drewN | apply Kd.R_drew)); exact HO_5.out) (Kd.R_base ho0) hb); have n1_ := Aside0.mk (Kd.R_lower (Kd.R_new' ho0 (Kd.R_lt (by (with_reducible repeat (first | apply Kd.R_alloc | apply Kd.R_drewN | apply Kd.R_drew)); exact HO_5.out))) (below_size (by repeat (first | (with_reducible first | exact HB.out | apply below_alloc | apply pw_below_drewN | apply below_drew1) | exact HB.out)))); have n2_ := Aside0.mk (below_step (by repeat (first | (with_reducible first | exact HB.out | apply below_alloc | apply pw_below_drewN | apply below_drew1) | exact HB.out)) hb); clear HO_5; clear HB; have HO_5 := n0_; have HO169 := n1_; have HB := n2_; clear n0_ n1_ n2_; (try clear hb); (try clear hb2); (try clear hk); (try clear hi); (try clear ho0)))
        go_ret
        exact ⟨_, by first | rfl | (simp [errW_none, errW_some] <;> rfl) | (simp [*, errW_none, errW_some] <;> rfl), by (with_reducible repeat (first | apply Kd.R_alloc | apply Kd.R_drewN | apply Kd.R_drew)); exact Kd.R_mono HO169.out (fun _ hk => trivial), by repeat (first | (with_reducible first | exact HB.out | apply below_alloc | apply pw_below_drewN | apply below_drew1) | exact HB.out)⟩

end Go.Proofs.Ytmipenoiodjbhaa.XFnStringSets
