/- A text of this session: the functions of the law FnGroupVersionBack, by a program that calls the kit's print and lays this session's own contracts of single functions beside. -/
import Derived.Test.YtehgokciafpnbaaXFnGroupVersionBackx0
namespace Go.Proofs.Ytehgokciafpnbaa.XFnGroupVersionBack
open Go.RowKit Go.Proofs.YtehgokciafpnbaaW.PrintWords Go.Proofs.YtehgokciafpnbaaW.PrintLast Go.Proofs.YtehgokciafpnbaaW.PrintMore
attribute [local go_sem] max2_int min2_int max_two min_two max_three min_three max_four min_four   -- for this text's walks alone
set_option linter.unusedVariables false
set_option linter.unusedSimpArgs false

/-! ### spec_verPlace: function 32 -/
def spec_verPlace.l0 : Nat → ByteArray → Int → Int → Option (Int)
  | 0, _, _, _ => none
  | k + 1, x0, x1, x5 => if x5 < (x0.size : Int) then (if 0 ≤ x5 then (if (bt x0 x5) = x1 then (some x5) else (spec_verPlace.l0 k x0 x1 (wrap64 (x5 + 1)))) else (none)) else (some (-1))
def spec_verPlace.f (k : Nat) (a0 : ByteArray) (a1 : Int) : Option (Int) := spec_verPlace.l0 k a0 a1 0
theorem spec_verPlace.mono_l : ∀ k, (∀ y0 y1 y2, LeO (spec_verPlace.l0 k y0 y1 y2) (spec_verPlace.l0 (k + 1) y0 y1 y2))
  | 0 => fun _ _ _ r h => by simp [spec_verPlace.l0] at h
  | k + 1 => by
    have ih0 := spec_verPlace.mono_l k
    · intro y0 y1 y2
      unfold spec_verPlace.l0
      repeat' first
      | (with_reducible exact ih0 _ _ _)
      | (with_reducible exact LeO.refl _)
      | (with_reducible exact LeO.none _)
      | (with_reducible refine LeO.ite ?_ ?_)
      | (with_reducible refine LeO.bind ?_ (fun _ => ?_))
      | exact ih0 _ _ _
      | exact LeO.none _
      | refine LeO.ite ?_ ?_
      | refine LeO.bind ?_ (fun _ => ?_)
theorem spec_verPlace.mono : ∀ a0 a1 k, LeO (spec_verPlace.f k a0 a1) (spec_verPlace.f (k + 1) a0 a1) := by
  intro a0 a1 k
  have ih0 := spec_verPlace.mono_l k
  unfold spec_verPlace.f
  repeat' first
      | (with_reducible exact ih0 _ _ _)
      | (with_reducible exact LeO.refl _)
      | (with_reducible exact LeO.none _)
      | (with_reducible refine LeO.ite ?_ ?_)
      | (with_reducible refine LeO.bind ?_ (fun _ => ?_))
      | exact ih0 _ _ _
      | exact LeO.none _
      | refine LeO.ite ?_ ?_
      | refine LeO.bind ?_ (fun _ => ?_)
set_option maxHeartbeats 8000000 in
set_option maxRecDepth 100000 in
theorem spec_verPlace.calls (k : Nat) (a0 : ByteArray) (a1 : Int) (r : Int) (w : World) (h : spec_verPlace.f k a0 a1 = some r) :
    Calls Try.prog 32 #[.string a0, .int .u8 a1] w fun e w' => e = .returned (.int .i64 r) ∧ Drawn0 w w' := by
  have H : (spec_verPlace.l0 k a0 a1 0) = some r := h
  clear h
  have H' := Aside0.mk H
  clear H
  go_enter Try.func32, Try.ntmps32
  go_wp2
  go_loopg [5] k (fun kq v5 w' => ∃ (x5_1 : Int), v5 = .int .i64 x5_1 ∧ Aside0 (spec_verPlace.l0 kq a0 a1 x5_1 = some r) ∧ Aside0 (kq ≤ k) ∧ Drawn0 w w')
  case atStart => exact ⟨(0), (by first | rfl | (simp; done) | (simp [*]; done)), H', ⟨Nat.le_refl _⟩, by repeat (first | exact Drawn0.refl _ | apply Drawn0.step)⟩
  case round =>
    clear H'
    try clear p2
    obtain ⟨x5_1, rfl, HA, HK1, ⟨m1, rfl⟩⟩ := hrel
    cases gk with
    | zero => exact absurd HA.out (by simp [spec_verPlace.l0])
    | succ k1 =>
      have H := HA.out
      clear HA
      simp only [spec_verPlace.l0] at H
      by_cases c3 : x5_1 < (a0.size : Int)
      · rw [if_pos c3] at H
        have c3b0 : decide (x5_1 < (a0.size : Int)) = true := decide_eq_true c3
        clear c3
        by_cases c4 : 0 ≤ x5_1
        · rw [if_pos c4] at H
          have c4b0 : decide (0 ≤ x5_1) = true := decide_eq_true c4
          clear c4
          by_cases c6 : (bt a0 x5_1) = a1
          · rw [if_pos c6] at H
            have c6b0 : ((bt a0 x5_1) == a1) = true := beq_iff_eq.mpr c6
            have c6b1 : ((bt a0 x5_1) != a1) = false := bne_eq_false_iff_eq.mpr c6
            clear c6
            obtain rfl := Option.some.inj H
            have p5 : 0 ≤ (x5_1 : Int) := of_decide_eq_true (by first | (with_reducible assumption) | assumption)
            have q5 : x5_1 < (a0.size : Int) := of_decide_eq_true (by first | (with_reducible assumption) | assumption)
            have hx5 := bt_at a0 x5_1
            replace p5 := eq_true p5
            replace q5 := eq_true q5
            go_wp2
            go_ret
            exact ⟨by first | rfl | (simp; done) | (simp [*]; done), by repeat (first | exact Drawn0.refl _ | apply Drawn0.step)⟩
          · rw [if_neg c6] at H
            have c6b0 : ((bt a0 x5_1) == a1) = false := beq_eq_false_iff_ne.mpr c6
            have c6b1 : ((bt a0 x5_1) != a1) = true := bne_iff_ne.mpr c6
            have H' := Aside0.mk H
            clear H
            have p5 : 0 ≤ (x5_1 : Int) := of_decide_eq_true (by first | (with_reducible assumption) | assumption)
            have q5 : x5_1 < (a0.size : Int) := of_decide_eq_true (by first | (with_reducible assumption) | assumption)
            have hx5 := bt_at a0 x5_1
            replace p5 := eq_true p5
            replace q5 := eq_true q5
            go_wp2
            go_roundg k1
            case measure => have := HK1.out; omega
            case rel => exact ⟨(wrap64 (x5_1 + 1)), (by first | rfl | (simp; done) | (simp [*]; done)), H', ⟨by have := HK1.out; omega⟩, by repeat (first | exact Drawn0.refl _ | apply Drawn0.step)⟩
        · rw [if_neg c4] at H
          exact absurd H (by simp)
      · rw [if_neg c3] at H
        have c3b0 : decide (x5_1 < (a0.size : Int)) = false := decide_eq_false c3
        clear c3
        obtain rfl := Option.some.inj H
        go_wp2
        go_ret
        exact ⟨by first | rfl | (simp; done) | (simp [*]; done), by repeat (first | exact Drawn0.refl _ | apply Drawn0.step)⟩

/-! ### spec_KindPlain: function 13 -/
def spec_KindPlain.l0 : Nat → ByteArray → ByteArray → Int → Option (Bool)
  | 0, _, _, _ => none
  | k + 1, x0, x1, x5 => if x5 < (x1.size : Int) then (if 0 ≤ x5 then ((spec_verPlace.f k x0 (bt x1 x5)).bind fun t101 => (if t101 ≥ 0 then (some false) else (spec_KindPlain.l0 k x0 x1 (wrap64 (x5 + 1))))) else (none)) else (some true)
def spec_KindPlain.f (k : Nat) (a0 : ByteArray) (a1 : ByteArray) : Option (Bool) := spec_KindPlain.l0 k a0 a1 0
theorem spec_KindPlain.mono_l : ∀ k, (∀ y0 y1 y2, LeO (spec_KindPlain.l0 k y0 y1 y2) (spec_KindPlain.l0 (k + 1) y0 y1 y2))
  | 0 => fun _ _ _ r h => by simp [spec_KindPlain.l0] at h
  | k + 1 => by
    have ih0 := spec_KindPlain.mono_l k
    · intro y0 y1 y2
      unfold spec_KindPlain.l0
      repeat' first
      | (with_reducible exact ih0 _ _ _)
      | (with_reducible exact spec_verPlace.mono _ _ _)
      | (with_reducible exact LeO.refl _)
      | (with_reducible exact LeO.none _)
      | (with_reducible refine LeO.ite ?_ ?_)
      | (with_reducible refine LeO.bind ?_ (fun _ => ?_))
      | exact ih0 _ _ _
      | exact spec_verPlace.mono _ _ _
      | exact LeO.none _
      | refine LeO.ite ?_ ?_
      | refine LeO.bind ?_ (fun _ => ?_)
theorem spec_KindPlain.mono : ∀ a0 a1 k, LeO (spec_KindPlain.f k a0 a1) (spec_KindPlain.f (k + 1) a0 a1) := by
  intro a0 a1 k
  have ih0 := spec_KindPlain.mono_l k
  unfold spec_KindPlain.f
  repeat' first
      | (with_reducible exact ih0 _ _ _)
      | (with_reducible exact spec_verPlace.mono _ _ _)
      | (with_reducible exact LeO.refl _)
      | (with_reducible exact LeO.none _)
      | (with_reducible refine LeO.ite ?_ ?_)
      | (with_reducible refine LeO.bind ?_ (fun _ => ?_))
      | exact ih0 _ _ _
      | exact spec_verPlace.mono _ _ _
      | exact LeO.none _
      | refine LeO.ite ?_ ?_
      | refine LeO.bind ?_ (fun _ => ?_)
set_option maxHeartbeats 8000000 in
set_option maxRecDepth 100000 in
theorem spec_KindPlain.calls (k : Nat) (a0 : ByteArray) (a1 : ByteArray) (r : Bool) (w : World) (h : spec_KindPlain.f k a0 a1 = some r) :
    Calls Try.prog 13 #[.string a0, .string a1] w fun e w' => e = .returned (.bool r) ∧ Drawn0 w w' := by
  have H : (spec_KindPlain.l0 k a0 a1 0) = some r := h
  clear h
  have H' := Aside0.mk H
  clear H
  go_enter Try.func13, Try.ntmps13
  go_wp2
  go_loopg [5] k (fun kq v5 w' => ∃ (x5_1 : Int), v5 = .int .i64 x5_1 ∧ Aside0 (spec_KindPlain.l0 kq a0 a1 x5_1 = some r) ∧ Aside0 (kq ≤ k) ∧ Drawn0 w w')
  case atStart => exact ⟨(0), (by first | rfl | (simp; done) | (simp [*]; done)), H', ⟨Nat.le_refl _⟩, by repeat (first | exact Drawn0.refl _ | apply Drawn0.step)⟩
  case round =>
    clear H'
    try clear c1
    try clear p2
    obtain ⟨x5_1, rfl, HA, HK1, ⟨m1, rfl⟩⟩ := hrel
    cases gk with
    | zero => exact absurd HA.out (by simp [spec_KindPlain.l0])
    | succ k1 =>
      have H := HA.out
      clear HA
      simp only [spec_KindPlain.l0] at H
      by_cases c3 : x5_1 < (a1.size : Int)
      · rw [if_pos c3] at H
        have c3b0 : decide (x5_1 < (a1.size : Int)) = true := decide_eq_true c3
        clear c3
        by_cases c4 : 0 ≤ x5_1
        · rw [if_pos c4] at H
          have c4b0 : decide (0 ≤ x5_1) = true := decide_eq_true c4
          clear c4
          replace H := Option.bind_eq_some_iff.mp H
          obtain ⟨t101, A60, H⟩ := H
          replace H : (if t101 ≥ 0 then (some false) else (spec_KindPlain.l0 k1 a0 a1 (wrap64 (x5_1 + 1)))) = some r := H
          have A6 := Aside0.mk A60
          clear A60
          by_cases c7 : t101 ≥ 0
          · rw [if_pos c7] at H
            have c7b0 : decide (0 ≤ t101) = true := decide_eq_true c7
            clear c7
            obtain rfl := Option.some.inj H
            have p5 : 0 ≤ (x5_1 : Int) := of_decide_eq_true (by first | (with_reducible assumption) | assumption)
            have q5 : x5_1 < (a1.size : Int) := of_decide_eq_true (by first | (with_reducible assumption) | assumption)
            have hx5 := bt_at a1 x5_1
            replace p5 := eq_true p5
            replace q5 := eq_true q5
            go_wp2_with (first | ((with_reducible refine gate_callee (f := 32) rfl ?_); refine goesL_ (some 16) rfl rfl Try.func32 (by kernel_rfl) rfl #[.string a0, .int .u8 (bt a1 x5_1)] rfl (by (try simp only [List.map_toArray, List.map_cons, List.map_nil]); first | done | rfl | (simp only [List.length_drop, List.length_take]; rfl)) ?_; (with_reducible refine (spec_verPlace.calls k1 a0 (bt a1 x5_1) t101 _ A6.out).mono ?_); rintro e w' ⟨rfl, ⟨nd, rfl⟩⟩; refine ⟨_, rfl, ?_⟩))
            go_ret
            exact ⟨by first | rfl | (simp; done) | (simp [*]; done), by repeat (first | exact Drawn0.refl _ | apply Drawn0.step)⟩
          · rw [if_neg c7] at H
            have c7b0 : decide (0 ≤ t101) = false := decide_eq_false c7
            clear c7
            have H' := Aside0.mk H
            clear H
            have p5 : 0 ≤ (x5_1 : Int) := of_decide_eq_true (by first | (with_reducible assumption) | assumption)
            have q5 : x5_1 < (a1.size : Int) := of_decide_eq_true (by first | (with_reducible assumption) | assumption)
            have hx5 := bt_at a1 x5_1
            replace p5 := eq_true p5
            replace q5 := eq_true q5
            go_wp2_with (first | ((with_reducible refine gate_callee (f := 32) rfl ?_); refine goesL_ (some 16) rfl rfl Try.func32 (by kernel_rfl) rfl #[.string a0, .int .u8 (bt a1 x5_1)] rfl (by (try simp only [List.map_toArray, List.map_cons, List.map_nil]); first | done | rfl | (simp only [List.length_drop, List.length_take]; rfl)) ?_; (with_reducible refine (spec_verPlace.calls k1 a0 (bt a1 x5_1) t101 _ A6.out).mono ?_); rintro e w' ⟨rfl, ⟨nd, rfl⟩⟩; refine ⟨_, rfl, ?_⟩))
            go_roundg k1
            case measure => have := HK1.out; omega
            case rel => exact ⟨(wrap64 (x5_1 + 1)), (by first | rfl | (simp; done) | (simp [*]; done)), H', ⟨by have := HK1.out; omega⟩, by repeat (first | exact Drawn0.refl _ | apply Drawn0.step)⟩
        · rw [if_neg c4] at H
          exact absurd H (by simp)
      · rw [if_neg c3] at H
        have c3b0 : decide (x5_1 < (a1.size : Int)) = false := decide_eq_false c3
        clear c3
        obtain rfl := Option.some.inj H
        go_wp2
        go_ret
        exact ⟨by first | rfl | (simp; done) | (simp [*]; done), by repeat (first | exact Drawn0.refl _ | apply Drawn0.step)⟩

/-! ### schema_zzIndex: function 43 -/
def schema_zzIndex.l0 : Nat → ByteArray → ByteArray → Int → Option (Int)
  | 0, _, _, _ => none
  | k + 1, x0, x1, x5 => if (wrap64 (x5 + (x1.size : Int))) ≤ (x0.size : Int) then (if 0 ≤ x5 then (if x5 ≤ (wrap64 (x5 + (x1.size : Int))) then (if (x0.extract (x5 : Int).toNat ((wrap64 (x5 + (x1.size : Int))) : Int).toNat).toList = x1.toList then (some x5) else (schema_zzIndex.l0 k x0 x1 (wrap64 (x5 + 1)))) else (none)) else (none)) else (some (-1))
def schema_zzIndex.f (k : Nat) (a0 : ByteArray) (a1 : ByteArray) : Option (Int) := schema_zzIndex.l0 k a0 a1 0
theorem schema_zzIndex.mono_l : ∀ k, (∀ y0 y1 y2, LeO (schema_zzIndex.l0 k y0 y1 y2) (schema_zzIndex.l0 (k + 1) y0 y1 y2))
  | 0 => fun _ _ _ r h => by simp [schema_zzIndex.l0] at h
  | k + 1 => by
    have ih0 := schema_zzIndex.mono_l k
    · intro y0 y1 y2
      unfold schema_zzIndex.l0
      repeat' first
      | (with_reducible exact ih0 _ _ _)
      | (with_reducible exact LeO.refl _)
      | (with_reducible exact LeO.none _)
      | (with_reducible refine LeO.ite ?_ ?_)
      | (with_reducible refine LeO.bind ?_ (fun _ => ?_))
      | exact ih0 _ _ _
      | exact LeO.none _
      | refine LeO.ite ?_ ?_
      | refine LeO.bind ?_ (fun _ => ?_)
theorem schema_zzIndex.mono : ∀ a0 a1 k, LeO (schema_zzIndex.f k a0 a1) (schema_zzIndex.f (k + 1) a0 a1) := by
  intro a0 a1 k
  have ih0 := schema_zzIndex.mono_l k
  unfold schema_zzIndex.f
  repeat' first
      | (with_reducible exact ih0 _ _ _)
      | (with_reducible exact LeO.refl _)
      | (with_reducible exact LeO.none _)
      | (with_reducible refine LeO.ite ?_ ?_)
      | (with_reducible refine LeO.bind ?_ (fun _ => ?_))
      | exact ih0 _ _ _
      | exact LeO.none _
      | refine LeO.ite ?_ ?_
      | refine LeO.bind ?_ (fun _ => ?_)
set_option maxHeartbeats 8000000 in
set_option maxRecDepth 100000 in
theorem schema_zzIndex.calls (k : Nat) (a0 : ByteArray) (a1 : ByteArray) (r : Int) (w : World) (h : schema_zzIndex.f k a0 a1 = some r) :
    Calls Try.prog 43 #[.string a0, .string a1] w fun e w' => e = .returned (.int .i64 r) ∧ Drawn0 w w' := by
  have H : (schema_zzIndex.l0 k a0 a1 0) = some r := h
  clear h
  have H' := Aside0.mk H
  clear H
  go_enter Try.func43, Try.ntmps43
  go_wp2
  go_loopg [5] k (fun kq v5 w' => ∃ (x5_1 : Int), v5 = .int .i64 x5_1 ∧ Aside0 (schema_zzIndex.l0 kq a0 a1 x5_1 = some r) ∧ Aside0 (kq ≤ k) ∧ Drawn0 w w')
  case atStart => exact ⟨(0), (by first | rfl | (simp; done) | (simp [*]; done)), H', ⟨Nat.le_refl _⟩, by repeat (first | exact Drawn0.refl _ | apply Drawn0.step)⟩
  case round =>
    clear H'
    try clear p2
    obtain ⟨x5_1, rfl, HA, HK1, ⟨m1, rfl⟩⟩ := hrel
    cases gk with
    | zero => exact absurd HA.out (by simp [schema_zzIndex.l0])
    | succ k1 =>
      have H := HA.out
      clear HA
      simp only [schema_zzIndex.l0] at H
      by_cases c3 : (wrap64 (x5_1 + (a1.size : Int))) ≤ (a0.size : Int)
      · rw [if_pos c3] at H
        have c3b0 : decide ((wrap64 (x5_1 + (a1.size : Int))) ≤ (a0.size : Int)) = true := decide_eq_true c3
        clear c3
        by_cases c4 : 0 ≤ x5_1
        · rw [if_pos c4] at H
          have c4b0 := eq_true c4
          have c4b1 : decide (0 ≤ x5_1) = true := decide_eq_true c4
          clear c4
          by_cases c5 : x5_1 ≤ (wrap64 (x5_1 + (a1.size : Int)))
          · rw [if_pos c5] at H
            have c5b0 := eq_true c5
            have c5b1 : decide (x5_1 ≤ (wrap64 (x5_1 + (a1.size : Int)))) = true := decide_eq_true c5
            have c6b0 := eq_true (of_decide_eq_true (by first | (with_reducible assumption) | assumption) : (wrap64 (x5_1 + (a1.size : Int))) ≤ (a0.size : Int))
            by_cases c7 : (a0.extract (x5_1 : Int).toNat ((wrap64 (x5_1 + (a1.size : Int))) : Int).toNat).toList = a1.toList
            · rw [if_pos c7] at H
              have c7b0 : ((a0.extract (x5_1 : Int).toNat ((wrap64 (x5_1 + (a1.size : Int))) : Int).toNat).toList == a1.toList) = true := beq_iff_eq.mpr c7
              have c7b1 : ((a0.extract (x5_1 : Int).toNat ((wrap64 (x5_1 + (a1.size : Int))) : Int).toNat).toList != a1.toList) = false := bne_eq_false_iff_eq.mpr c7
              clear c7
              obtain rfl := Option.some.inj H
              go_wp2
              go_ret
              exact ⟨by first | rfl | (simp; done) | (simp [*]; done), by repeat (first | exact Drawn0.refl _ | apply Drawn0.step)⟩
            · rw [if_neg c7] at H
              have c7b0 : ((a0.extract (x5_1 : Int).toNat ((wrap64 (x5_1 + (a1.size : Int))) : Int).toNat).toList == a1.toList) = false := beq_eq_false_iff_ne.mpr c7
              have c7b1 : ((a0.extract (x5_1 : Int).toNat ((wrap64 (x5_1 + (a1.size : Int))) : Int).toNat).toList != a1.toList) = true := bne_iff_ne.mpr c7
              have H' := Aside0.mk H
              clear H
              go_wp2
              go_roundg k1
              case measure => have := HK1.out; omega
              case rel => exact ⟨(wrap64 (x5_1 + 1)), (by first | rfl | (simp; done) | (simp [*]; done)), H', ⟨by have := HK1.out; omega⟩, by repeat (first | exact Drawn0.refl _ | apply Drawn0.step)⟩
          · rw [if_neg c5] at H
            exact absurd H (by simp)
        · rw [if_neg c4] at H
          exact absurd H (by simp)
      · rw [if_neg c3] at H
        have c3b0 : decide ((wrap64 (x5_1 + (a1.size : Int))) ≤ (a0.size : Int)) = false := decide_eq_false c3
        clear c3
        obtain rfl := Option.some.inj H
        go_wp2
        go_ret
        exact ⟨by first | rfl | (simp; done) | (simp [*]; done), by repeat (first | exact Drawn0.refl _ | apply Drawn0.step)⟩

/-! ### schema_zzCount: function 46 -/
def schema_zzCount.l1 : Nat → ByteArray → ByteArray → Int → Int → Option (Int)
  | 0, _, _, _, _ => none
  | k + 1, x0, x1, x5, x6 => if (wrap64 (x6 + (x1.size : Int))) ≤ (x0.size : Int) then (if 0 ≤ x6 then (if x6 ≤ (wrap64 (x6 + (x1.size : Int))) then (if (x0.extract (x6 : Int).toNat ((wrap64 (x6 + (x1.size : Int))) : Int).toNat).toList = x1.toList then (schema_zzCount.l1 k x0 x1 (wrap64 (x5 + 1)) (wrap64 (x6 + (x1.size : Int)))) else (schema_zzCount.l1 k x0 x1 x5 (wrap64 (x6 + 1)))) else (none)) else (none)) else (some x5)
def schema_zzCount.f (k : Nat) (a0 : ByteArray) (a1 : ByteArray) : Option (Int) := if (a1.size : Int) = 0 then (none) else (schema_zzCount.l1 k a0 a1 0 0)
theorem schema_zzCount.mono_l : ∀ k, (∀ y0 y1 y2 y3, LeO (schema_zzCount.l1 k y0 y1 y2 y3) (schema_zzCount.l1 (k + 1) y0 y1 y2 y3))
  | 0 => fun _ _ _ _ r h => by simp [schema_zzCount.l1] at h
  | k + 1 => by
    have ih0 := schema_zzCount.mono_l k
    · intro y0 y1 y2 y3
      unfold schema_zzCount.l1
      repeat' first
      | (with_reducible exact ih0 _ _ _ _)
      | (with_reducible exact LeO.refl _)
      | (with_reducible exact LeO.none _)
      | (with_reducible refine LeO.ite ?_ ?_)
      | (with_reducible refine LeO.bind ?_ (fun _ => ?_))
      | exact ih0 _ _ _ _
      | exact LeO.none _
      | refine LeO.ite ?_ ?_
      | refine LeO.bind ?_ (fun _ => ?_)
theorem schema_zzCount.mono : ∀ a0 a1 k, LeO (schema_zzCount.f k a0 a1) (schema_zzCount.f (k + 1) a0 a1) := by
  intro a0 a1 k
  have ih0 := schema_zzCount.mono_l k
  unfold schema_zzCount.f
  repeat' first
      | (with_reducible exact ih0 _ _ _ _)
      | (with_reducible exact LeO.refl _)
      | (with_reducible exact LeO.none _)
      | (with_reducible refine LeO.ite ?_ ?_)
      | (with_reducible refine LeO.bind ?_ (fun _ => ?_))
      | exact ih0 _ _ _ _
      | exact LeO.none _
      | refine LeO.ite ?_ ?_
      | refine LeO.bind ?_ (fun _ => ?_)
set_option maxHeartbeats 8000000 in
set_option maxRecDepth 100000 in
theorem schema_zzCount.calls (k : Nat) (a0 : ByteArray) (a1 : ByteArray) (r : Int) (w : World) (h : schema_zzCount.f k a0 a1 = some r) :
    Calls Try.prog 46 #[.string a0, .string a1] w fun e w' => e = .returned (.int .i64 r) ∧ Drawn0 w w' := by
  have H : (if (a1.size : Int) = 0 then (none) else (schema_zzCount.l1 k a0 a1 0 0)) = some r := h
  clear h
  by_cases c3 : (a1.size : Int) = 0
  · rw [if_pos c3] at H
    exact absurd H (by simp)
  · rw [if_neg c3] at H
    have c3b0 : ((a1.size : Int) == 0) = false := beq_eq_false_iff_ne.mpr c3
    have c3b1 : ((a1.size : Int) != 0) = true := bne_iff_ne.mpr c3
    have H' := Aside0.mk H
    clear H
    go_enter Try.func46, Try.ntmps46
    go_wp2
    go_loopg [5, 6] k (fun kq v5 v6 w' => ∃ (x5_1 : Int) (x6_1 : Int), v5 = .int .i64 x5_1 ∧ v6 = .int .i64 x6_1 ∧ Aside0 (schema_zzCount.l1 kq a0 a1 x5_1 x6_1 = some r) ∧ Aside0 (kq ≤ k) ∧ Drawn0 w w')
    case atStart => exact ⟨(0), (0), (by first | rfl | (simp; done) | (simp [*]; done)), (by first | rfl | (simp; done) | (simp [*]; done)), H', ⟨Nat.le_refl _⟩, by repeat (first | exact Drawn0.refl _ | apply Drawn0.step)⟩
    case round =>
      clear H'
      try clear p2
      try clear c3
      try clear c3b0
      try clear c3b1
      obtain ⟨x5_1, x6_1, rfl, rfl, HA, HK1, ⟨m1, rfl⟩⟩ := hrel
      cases gk with
      | zero => exact absurd HA.out (by simp [schema_zzCount.l1])
      | succ k1 =>
        have H := HA.out
        clear HA
        simp only [schema_zzCount.l1] at H
        by_cases c4 : (wrap64 (x6_1 + (a1.size : Int))) ≤ (a0.size : Int)
        · rw [if_pos c4] at H
          have c4b0 : decide ((wrap64 (x6_1 + (a1.size : Int))) ≤ (a0.size : Int)) = true := decide_eq_true c4
          clear c4
          by_cases c5 : 0 ≤ x6_1
          · rw [if_pos c5] at H
            have c5b0 := eq_true c5
            have c5b1 : decide (0 ≤ x6_1) = true := decide_eq_true c5
            clear c5
            by_cases c6 : x6_1 ≤ (wrap64 (x6_1 + (a1.size : Int)))
            · rw [if_pos c6] at H
              have c6b0 := eq_true c6
              have c6b1 : decide (x6_1 ≤ (wrap64 (x6_1 + (a1.size : Int)))) = true := decide_eq_true c6
              have c7b0 := eq_true (of_decide_eq_true (by first | (with_reducible assumption) | assumption) : (wrap64 (x6_1 + (a1.size : Int))) ≤ (a0.size : Int))
              by_cases c8 : (a0.extract (x6_1 : Int).toNat ((wrap64 (x6_1 + (a1.size : Int))) : Int).toNat).toList = a1.toList
              · rw [if_pos c8] at H
                have c8b0 : ((a0.extract (x6_1 : Int).toNat ((wrap64 (x6_1 + (a1.size : Int))) : Int).toNat).toList == a1.toList) = true := beq_iff_eq.mpr c8
                have c8b1 : ((a0.extract (x6_1 : Int).toNat ((wrap64 (x6_1 + (a1.size : Int))) : Int).toNat).toList != a1.toList) = false := bne_eq_false_iff_eq.mpr c8
                clear c8
                have H' := Aside0.mk H
                clear H
                go_wp2
                go_roundg k1
                case measure => have := HK1.out; omega
                case rel => exact ⟨(wrap64 (x5_1 + 1)), (wrap64 (x6_1 + (a1.size : Int))), (by first | rfl | (simp; done) | (simp [*]; done)), (by first | rfl | (simp; done) | (simp [*]; done)), H', ⟨by have := HK1.out; omega⟩, by repeat (first | exact Drawn0.refl _ | apply Drawn0.step)⟩
              · rw [if_neg c8] at H
                have c8b0 : ((a0.extract (x6_1 : Int).toNat ((wrap64 (x6_1 + (a1.size : Int))) : Int).toNat).toList == a1.toList) = false := beq_eq_false_iff_ne.mpr c8
                have c8b1 : ((a0.extract (x6_1 : Int).toNat ((wrap64 (x6_1 + (a1.size : Int))) : Int).toNat).toList != a1.toList) = true := bne_iff_ne.mpr c8
                have H' := Aside0.mk H
                clear H
                go_wp2
                go_roundg k1
                case measure => have := HK1.out; omega
                case rel => exact ⟨(x5_1), (wrap64 (x6_1 + 1)), (by first | rfl | (simp; done) | (simp [*]; done)), (by first | rfl | (simp; done) | (simp [*]; done)), H', ⟨by have := HK1.out; omega⟩, by repeat (first | exact Drawn0.refl _ | apply Drawn0.step)⟩
            · rw [if_neg c6] at H
              exact absurd H (by simp)
          · rw [if_neg c5] at H
            exact absurd H (by simp)
        · rw [if_neg c4] at H
          have c4b0 : decide ((wrap64 (x6_1 + (a1.size : Int))) ≤ (a0.size : Int)) = false := decide_eq_false c4
          clear c4
          obtain rfl := Option.some.inj H
          go_wp2
          go_ret
          exact ⟨by first | rfl | (simp; done) | (simp [*]; done), by repeat (first | exact Drawn0.refl _ | apply Drawn0.step)⟩

-- NOT PRINTED: function 47 (errors_New)

-- NOT PRINTED: function 38 (schema_ParseGroupVersion)

/-! ### impl_GroupVersionParse: function 20 -/
theorem parse_empty (s : ByteArray) (w : World) (h : ((s.size : Int) == 0) = true) :
    Calls Try.prog 38 #[.string s] w fun e w' => e = .returned (.tuple #[.agg #[.string ⟨#[]⟩, .string ⟨#[]⟩], .nilIface]) ∧ Below w.heap.size w w' := by
  go_enter Try.func38, Try.ntmps38
  go_wp2_with fail
  refine bodyPost_ret (results_ct rfl _ _ w.heap.size 44 #[.string ⟨#[]⟩, .string ⟨#[]⟩] (0, 0) _ rfl (by simpa using heap_alloc_new w _) Try.underlying44 rfl (by kernel_rfl)) rfl ?_
  exact ⟨rfl, (Below.refl _ _).alloc (Nat.le_refl _) _⟩
theorem parse_slash (s : ByteArray) (w : World) (h0 : ((s.size : Int) == 0) = false) (h : (s.toList == ([47] : List UInt8)) = true) :
    Calls Try.prog 38 #[.string s] w fun e w' => e = .returned (.tuple #[.agg #[.string ⟨#[]⟩, .string ⟨#[]⟩], .nilIface]) ∧ Below w.heap.size w w' := by
  go_enter Try.func38, Try.ntmps38
  go_wp2_with fail
  refine bodyPost_ret (results_ct rfl _ _ w.heap.size 44 #[.string ⟨#[]⟩, .string ⟨#[]⟩] (0, 0) _ rfl (by simpa using heap_alloc_new w _) Try.underlying44 rfl (by kernel_rfl)) rfl ?_
  exact ⟨rfl, (Below.refl _ _).alloc (Nat.le_refl _) _⟩
theorem parse_none (k : Nat) (s : ByteArray) (w : World) (h1 : ((s.size : Int) == 0) = false) (h2 : (s.toList == ([47] : List UInt8)) = false) (hc : Aside0 (schema_zzCount.f k s (⟨#[47]⟩ : ByteArray) = some 0)) :
    Calls Try.prog 38 #[.string s] w fun e w' => e = .returned (.tuple #[.agg #[.string ⟨#[]⟩, .string s], .nilIface]) ∧ Below w.heap.size w w' := by
  go_enter Try.func38, Try.ntmps38
  go_wp2_with fail
  (with_reducible refine (schema_zzCount.calls k _ _ _ _ hc.out).mono ?_)
  rintro e w1 ⟨rfl, ⟨m, rfl⟩⟩
  go_wp2_with fail
  refine bodyPost_ret (results_ct rfl _ _ w.heap.size 44 #[.string ⟨#[]⟩, .string s] (0, 0) _ rfl (blk_put (cs := #[.string ⟨#[]⟩, .string ⟨#[]⟩]) (blk_put (cs := #[.string ⟨#[]⟩, .string ⟨#[]⟩]) (blk_drewN (by simpa using heap_alloc_new w _) m) 0 _ rfl) 1 _ rfl) Try.underlying44 rfl (by kernel_rfl)) rfl ?_
  exact ⟨rfl, below_set (below_set (pw_below_drewN ((Below.refl _ _).alloc (Nat.le_refl _) _) _) (Nat.le_refl _)) (Nat.le_refl _)⟩
theorem parse_one (k : Nat) (s : ByteArray) (i : Int) (w : World) (h1 : ((s.size : Int) == 0) = false) (h2 : (s.toList == ([47] : List UInt8)) = false) (hc : Aside0 (schema_zzCount.f k s (⟨#[47]⟩ : ByteArray) = some 1))
    (hi : Aside0 (schema_zzIndex.f k s (⟨#[47]⟩ : ByteArray) = some i)) (i0 : 0 ≤ i) (i1 : i + 1 ≤ s.size) (hs : s.size ≤ 9223372036854775807) :
    Calls Try.prog 38 #[.string s] w fun e w' => e = .returned (.tuple #[.agg #[.string (s.extract 0 i.toNat), .string (s.extract (i + 1).toNat s.size)], .nilIface]) ∧ Below w.heap.size w w' := by
  go_enter Try.func38, Try.ntmps38
  go_wp2_with fail
  (with_reducible refine (schema_zzCount.calls k _ _ _ _ hc.out).mono ?_)
  rintro e w1 ⟨rfl, ⟨m, rfl⟩⟩
  go_wp2_with fail
  (with_reducible refine (schema_zzIndex.calls k _ _ _ _ hi.out).mono ?_)
  rintro e w1 ⟨rfl, ⟨m2, rfl⟩⟩
  go_wp2_with fail
  go_region
  go_wp2_with fail
  refine bodyPost_ret (results_ct rfl _ _ w.heap.size 44 #[.string (s.extract 0 i.toNat), .string (s.extract (i + 1).toNat s.size)] (0, 0) _ rfl (blk_put (cs := #[.string (s.extract 0 i.toNat), .string ⟨#[]⟩]) (blk_put (cs := #[.string ⟨#[]⟩, .string ⟨#[]⟩]) (blk_drewN (by simpa using heap_alloc_new w _) _) 0 _ rfl) 1 _ rfl) Try.underlying44 rfl (by kernel_rfl)) rfl ?_
  exact ⟨rfl, below_set (below_set (pw_below_drewN ((Below.refl _ _).alloc (Nat.le_refl _) _) _) (Nat.le_refl _)) (Nat.le_refl _)⟩
theorem parse_many (k : Nat) (s : ByteArray) (w : World) (n : Int) (h1 : ((s.size : Int) == 0) = false) (h2 : (s.toList == ([47] : List UInt8)) = false) (hc : Aside0 (schema_zzCount.f k s (⟨#[47]⟩ : ByteArray) = some n)) (hn0 : (n == 0) = false) (hn1 : (n == 1) = false) :
    Calls Try.prog 38 #[.string s] w fun e w' => ∃ t p, e = .returned (.tuple #[.agg #[.string ⟨#[]⟩, .string ⟨#[]⟩], .iface t p]) ∧ Below w.heap.size w w' := by
  go_enter Try.func38, Try.ntmps38
  go_wp2_with fail
  (with_reducible refine (schema_zzCount.calls k _ _ _ _ hc.out).mono ?_)
  rintro e w1 ⟨rfl, ⟨m, rfl⟩⟩
  go_wp2
  refine bodyPost_ret (results_ct rfl _ _ w.heap.size 44 #[.string ⟨#[]⟩, .string ⟨#[]⟩] (0, 0) _ rfl (blk_alloc (blk_put (cs := #[.string ⟨#[]⟩, .string ⟨#[]⟩]) (blk_put (cs := #[.string ⟨#[]⟩, .string ⟨#[]⟩]) (blk_drewN (by simpa using heap_alloc_new w _) m) 0 _ rfl) 1 _ rfl) _) Try.underlying44 rfl (by kernel_rfl)) rfl ?_
  exact ⟨_, _, rfl, below_alloc (below_set (below_set (pw_below_drewN ((Below.refl _ _).alloc (Nat.le_refl _) _) _) (Nat.le_refl _)) (Nat.le_refl _)) _⟩
/-- What ParseGroupVersion tells: the group, the version, and whether there is no error. -/
def gvp (k : Nat) (s : ByteArray) : Option (ByteArray × ByteArray × Bool) :=
  if (s.size : Int) = 0 then some (⟨#[]⟩, ⟨#[]⟩, true) else if s.toList = ([47] : List UInt8) then some (⟨#[]⟩, ⟨#[]⟩, true) else
    (schema_zzCount.f k s (⟨#[47]⟩ : ByteArray)).bind fun n => if n = 0 then some (⟨#[]⟩, s, true) else if n = 1 then
      (schema_zzIndex.f k s (⟨#[47]⟩ : ByteArray)).bind fun i => if 0 ≤ i ∧ i + 1 ≤ s.size ∧ s.size ≤ 9223372036854775807 then some (s.extract 0 i.toNat, s.extract (i + 1).toNat s.size, true) else none
    else some (⟨#[]⟩, ⟨#[]⟩, false)
def ErrV (ok : Bool) (v : Value) : Prop := if ok = true then v = .nilIface else ∃ t x, v = .iface t x
theorem gvp_mono (s : ByteArray) (k : Nat) : LeO (gvp k s) (gvp (k + 1) s) := by
  unfold gvp
  refine LeO.ite (LeO.refl _) (LeO.ite (LeO.refl _) (LeO.bind (schema_zzCount.mono _ _ _) (fun _ => LeO.ite (LeO.refl _) (LeO.ite (LeO.bind (schema_zzIndex.mono _ _ _) (fun _ => LeO.refl _)) (LeO.refl _)))))
theorem gvp_calls (k : Nat) (s : ByteArray) (g v : ByteArray) (ok : Bool) (w : World) (h : gvp k s = some (g, v, ok)) :
    Calls Try.prog 38 #[.string s] w fun e w' => ∃ ev, e = .returned (.tuple #[.agg #[.string g, .string v], ev]) ∧ ErrV ok ev ∧ Below w.heap.size w w' := by
  unfold gvp at h
  by_cases h0 : (s.size : Int) = 0
  · rw [if_pos h0] at h
    obtain ⟨rfl, rfl, rfl⟩ : (⟨#[]⟩ : ByteArray) = g ∧ (⟨#[]⟩ : ByteArray) = v ∧ true = ok := by simpa using h
    exact (parse_empty s w (by simpa using h0)).mono fun e w' ⟨he, hb⟩ => ⟨_, he, rfl, hb⟩
  · rw [if_neg h0] at h
    have b0 : ((s.size : Int) == 0) = false := beq_eq_false_iff_ne.mpr h0
    by_cases h1 : s.toList = ([47] : List UInt8)
    · rw [if_pos h1] at h
      obtain ⟨rfl, rfl, rfl⟩ : (⟨#[]⟩ : ByteArray) = g ∧ (⟨#[]⟩ : ByteArray) = v ∧ true = ok := by simpa using h
      exact (parse_slash s w b0 (beq_iff_eq.mpr h1)).mono fun e w' ⟨he, hb⟩ => ⟨_, he, rfl, hb⟩
    · rw [if_neg h1] at h
      have b1 : (s.toList == ([47] : List UInt8)) = false := beq_eq_false_iff_ne.mpr h1
      obtain ⟨n, hn, h⟩ := Option.bind_eq_some_iff.mp h
      by_cases n0 : n = 0
      · rw [if_pos n0] at h
        subst n0
        obtain ⟨rfl, rfl, rfl⟩ : (⟨#[]⟩ : ByteArray) = g ∧ s = v ∧ true = ok := by simpa using h
        exact (parse_none k s w b0 b1 ⟨hn⟩).mono fun e w' ⟨he, hb⟩ => ⟨_, he, rfl, hb⟩
      · rw [if_neg n0] at h
        by_cases n1 : n = 1
        · rw [if_pos n1] at h
          subst n1
          obtain ⟨i, hi, h⟩ := Option.bind_eq_some_iff.mp h
          by_cases hc : 0 ≤ i ∧ i + 1 ≤ s.size ∧ s.size ≤ 9223372036854775807
          · rw [if_pos hc] at h
            obtain ⟨rfl, rfl, rfl⟩ : s.extract 0 i.toNat = g ∧ s.extract (i + 1).toNat s.size = v ∧ true = ok := by simpa using h
            exact (parse_one k s i w b0 b1 ⟨hn⟩ ⟨hi⟩ hc.1 hc.2.1 hc.2.2).mono fun e w' ⟨he, hb⟩ => ⟨_, he, rfl, hb⟩
          · rw [if_neg hc] at h; cases h
        · rw [if_neg n1] at h
          obtain ⟨rfl, rfl, rfl⟩ : (⟨#[]⟩ : ByteArray) = g ∧ (⟨#[]⟩ : ByteArray) = v ∧ false = ok := by simpa using h
          exact (parse_many k s w n b0 b1 ⟨hn⟩ (beq_eq_false_iff_ne.mpr n0) (beq_eq_false_iff_ne.mpr n1)).mono fun e w' ⟨t, p, he, hb⟩ => ⟨_, he, ⟨t, p, rfl⟩, hb⟩

def impl_GroupVersionParse.f (k : Nat) (a0 : ByteArray) : Option (ByteArray × ByteArray × ByteArray × Bool) := (gvp k a0).bind fun t => some (t.1, t.2.1, (⟨#[]⟩ : ByteArray), t.2.2)
theorem impl_GroupVersionParse.mono : ∀ a0 k, LeO (impl_GroupVersionParse.f k a0) (impl_GroupVersionParse.f (k + 1) a0) := by
  intro a0 k
  unfold impl_GroupVersionParse.f
  exact LeO.bind (gvp_mono _ _) (fun _ => LeO.refl _)
theorem impl_GroupVersionParse.walk_ (k : Nat) (s g v : ByteArray) (ok : Bool) (w : World) (h : Aside0 (gvp k s = some (g, v, ok))) :
    Calls Try.prog 20 #[.string s] w fun e w' => e = .returned (.tuple #[.agg #[.string g, .string v, .string ⟨#[]⟩], .bool ok]) ∧ Below w.heap.size w w' := by
  cases ok with
  | true =>
    go_enter Try.func20, Try.ntmps20
    go_wp2_with fail
    (with_reducible refine (gvp_calls k _ _ _ _ _ h.out).mono ?_)
    rintro e w1 ⟨ev, rfl, hE, hb⟩
    obtain rfl : ev = .nilIface := hE
    have hz := hb.size
    simp at hz
    have hy : w.heap.size < w1.heap.size := by omega
    have R0 : w1.heap[w.heap.size]? = some (.cells #[.string ⟨#[]⟩, .string ⟨#[]⟩, .string ⟨#[]⟩] 26 (0, 0)) := blk_below (by simpa using heap_alloc_new w (.cells #[.string ⟨#[]⟩, .string ⟨#[]⟩, .string ⟨#[]⟩] 26)) hb
    have HB : Below w.heap.size w w1 := (below_alloc (Below.refl _ _) _).trans (hb.mono (by simp))
    have f0 : w1.cell? ⟨w.heap.size, 0, none⟩ = some (.string ⟨#[]⟩) := (blk_cell R0 0).trans rfl
    have f1 : w1.cell? ⟨w.heap.size, 1, none⟩ = some (.string ⟨#[]⟩) := (blk_cell R0 1).trans rfl
    have f2 : w1.cell? ⟨w.heap.size, 2, none⟩ = some (.string ⟨#[]⟩) := (blk_cell R0 2).trans rfl
    have f3 := blk_frozen R0 0
    have f4 := blk_frozen R0 1
    have f5 := blk_frozen R0 2
    have HR := Aside0.mk R0
    have HB1 := Aside0.mk HB
    clear hb hz R0 HB
    go_wp2_with fail
    go_region
    go_wp2_with fail
    refine bodyPost_ret (results_ct rfl _ _ w.heap.size 26 #[.string g, .string v, .string ⟨#[]⟩] (0, 0) _ rfl (blk_drew (blk_alloc (blk_put (cs := #[.string g, .string v, .string ⟨#[]⟩]) (blk_put (cs := #[.string g, .string ⟨#[]⟩, .string ⟨#[]⟩]) (blk_put (cs := #[.string ⟨#[]⟩, .string ⟨#[]⟩, .string ⟨#[]⟩]) HR.out 0 _ rfl) 1 _ rfl) 2 _ rfl) _)) Try.underlying26 rfl (by kernel_rfl)) rfl ?_
    exact ⟨rfl, below_drew1 (below_alloc (below_set (below_set (below_set HB1.out (Nat.le_refl _)) (Nat.le_refl _)) (Nat.le_refl _)) _)⟩
  | false =>
    go_enter Try.func20, Try.ntmps20
    go_wp2_with fail
    (with_reducible refine (gvp_calls k _ _ _ _ _ h.out).mono ?_)
    rintro e w1 ⟨ev, rfl, ⟨t, x, rfl⟩, hb⟩
    have hz := hb.size
    simp at hz
    have hy : w.heap.size < w1.heap.size := by omega
    have R0 : w1.heap[w.heap.size]? = some (.cells #[.string ⟨#[]⟩, .string ⟨#[]⟩, .string ⟨#[]⟩] 26 (0, 0)) := blk_below (by simpa using heap_alloc_new w (.cells #[.string ⟨#[]⟩, .string ⟨#[]⟩, .string ⟨#[]⟩] 26)) hb
    have HB : Below w.heap.size w w1 := (below_alloc (Below.refl _ _) _).trans (hb.mono (by simp))
    have f0 : w1.cell? ⟨w.heap.size, 0, none⟩ = some (.string ⟨#[]⟩) := (blk_cell R0 0).trans rfl
    have f1 : w1.cell? ⟨w.heap.size, 1, none⟩ = some (.string ⟨#[]⟩) := (blk_cell R0 1).trans rfl
    have f2 : w1.cell? ⟨w.heap.size, 2, none⟩ = some (.string ⟨#[]⟩) := (blk_cell R0 2).trans rfl
    have f3 := blk_frozen R0 0
    have f4 := blk_frozen R0 1
    have f5 := blk_frozen R0 2
    have HR := Aside0.mk R0
    have HB1 := Aside0.mk HB
    clear hb hz R0 HB
    go_wp2_with fail
    go_region
    go_wp2_with fail
    refine bodyPost_ret (results_ct rfl _ _ w.heap.size 26 #[.string g, .string v, .string ⟨#[]⟩] (0, 0) _ rfl (blk_drew (blk_alloc (blk_put (cs := #[.string g, .string v, .string ⟨#[]⟩]) (blk_put (cs := #[.string g, .string ⟨#[]⟩, .string ⟨#[]⟩]) (blk_put (cs := #[.string ⟨#[]⟩, .string ⟨#[]⟩, .string ⟨#[]⟩]) HR.out 0 _ rfl) 1 _ rfl) 2 _ rfl) _)) Try.underlying26 rfl (by kernel_rfl)) rfl ?_
    exact ⟨rfl, below_drew1 (below_alloc (below_set (below_set (below_set HB1.out (Nat.le_refl _)) (Nat.le_refl _)) (Nat.le_refl _)) _)⟩
theorem impl_GroupVersionParse.calls (k : Nat) (a0 : ByteArray) (r1 r2 r3 : ByteArray) (r4 : Bool) (w : World) (h : impl_GroupVersionParse.f k a0 = some (r1, r2, r3, r4)) :
    Calls Try.prog 20 #[.string a0] w fun e w' => e = .returned (.tuple #[.agg #[.string r1, .string r2, .string r3], .bool r4]) ∧ Below w.heap.size w w' := by
  unfold impl_GroupVersionParse.f at h
  obtain ⟨⟨t1, t2, t3⟩, ht, he⟩ := Option.bind_eq_some_iff.1 h
  simp only [Option.some.injEq, Prod.mk.injEq] at he
  obtain ⟨rfl, rfl, rfl, rfl⟩ := he
  exact impl_GroupVersionParse.walk_ k _ _ _ _ w ⟨ht⟩

/-! ### schema_GroupVersion_String: function 39 -/
def schema_GroupVersion_String.f (a0_0 : ByteArray) (a0_1 : ByteArray) : Option (ByteArray) := if (a0_0.size : Int) > 0 then (if a0_0.size + 1 ≤ 9223372036854775807 then (if (a0_0 ++ (⟨#[47]⟩ : ByteArray)).size + a0_1.size ≤ 9223372036854775807 then (some ((a0_0 ++ (⟨#[47]⟩ : ByteArray)) ++ a0_1)) else (none)) else (none)) else (some a0_1)
set_option maxHeartbeats 8000000 in
set_option maxRecDepth 100000 in
theorem schema_GroupVersion_String.calls (a0_0 : ByteArray) (a0_1 : ByteArray) (r : ByteArray) (w : World) (h : schema_GroupVersion_String.f a0_0 a0_1 = some r) :
    Calls Try.prog 39 #[.agg #[.string a0_0, .string a0_1]] w fun e w' => e = .returned (.string r) ∧ Below w.heap.size w w' := by
  have hu44 := Try.underlying44
  have HB := Aside0.mk (Below.refl w.heap.size w)
  have H : (if (a0_0.size : Int) > 0 then (if a0_0.size + 1 ≤ 9223372036854775807 then (if (a0_0 ++ (⟨#[47]⟩ : ByteArray)).size + a0_1.size ≤ 9223372036854775807 then (some ((a0_0 ++ (⟨#[47]⟩ : ByteArray)) ++ a0_1)) else (none)) else (none)) else (some a0_1)) = some r := h
  clear h
  by_cases c2 : (a0_0.size : Int) > 0
  · rw [if_pos c2] at H
    have c2b0 : decide (0 < (a0_0.size : Int)) = true := decide_eq_true c2
    have c2b1 : decide (0 < a0_0.size) = true := decide_eq_true (by omega)
    clear c2
    by_cases c3 : a0_0.size + 1 ≤ 9223372036854775807
    · rw [if_pos c3] at H
      have c3b0 := eq_true c3
      have c3b1 : decide (a0_0.size + 1 ≤ 9223372036854775807) = true := decide_eq_true c3
      try have c3b2 : (9223372036854775807 < a0_0.size + 1) = False := eq_false (Nat.not_lt.2 c3)
      by_cases c4 : (a0_0 ++ (⟨#[47]⟩ : ByteArray)).size + a0_1.size ≤ 9223372036854775807
      · rw [if_pos c4] at H
        have c4b0 := eq_true c4
        have c4b1 : decide ((a0_0 ++ (⟨#[47]⟩ : ByteArray)).size + a0_1.size ≤ 9223372036854775807) = true := decide_eq_true c4
        try have c4b2 : (9223372036854775807 < (a0_0 ++ (⟨#[47]⟩ : ByteArray)).size + a0_1.size) = False := eq_false (Nat.not_lt.2 c4)
        obtain rfl := Option.some.inj H
        go_enter Try.func39, Try.ntmps39
        go_wp2_with (first | ((with_reducible refine gate_dst (N := 1) rfl ?_); refine box_event ?hg (N := 1) ?hd (cs := #[.string a0_0, .string a0_1]) (t := 44) ?hr ?_; (case hd => rfl); (case hg => rfl); (case hr => first | (go_simp; done) | (go_simp; rfl)); intro gb106 hg w5 hbox hb; have n0_ := Aside0.mk (below_step (by repeat (first | (with_reducible first | exact HB.out | apply below_alloc | apply pw_below_drewN | apply below_drew1) | exact HB.out)) hb); have n1_ := Aside0.mk (hbox); have n2_ := Aside0.mk ((by rw [hg]; exact (below_size (by repeat (first | (with_reducible first | exact HB.out | apply below_alloc | apply pw_below_drewN | apply below_drew1) | exact HB.out))) : w.heap.size ≤ gb106)); have n3_ := Aside0.mk ((by rw [hg]; exact (below_size (by repeat (first | (with_reducible first | exact HB.out | apply below_alloc | apply pw_below_drewN | apply below_drew1) | exact HB.out))) : w.heap.size ≤ gb106)); clear HB; have HB := n0_; have BK106 := n1_; have GW106 := n2_; have GE106 := n3_; clear n0_ n1_ n2_ n3_; clear hb hbox hg; have hcz6_0 : w5.cell? ⟨gb106, 0, none⟩ = some (.string a0_0) := (blk_cell BK106.out 0).trans rfl; have hcz6_1 : w5.cell? ⟨gb106, 1, none⟩ = some (.string a0_1) := (blk_cell BK106.out 1).trans rfl; have hfz6_0 := blk_frozen BK106.out 0; have hfz6_1 := blk_frozen BK106.out 1))
        go_ret
        exact ⟨by first | rfl | (simp [errW_none, errW_some] <;> rfl) | (simp [*, errW_none, errW_some] <;> rfl), by repeat (first | (with_reducible first | exact HB.out | apply below_alloc | apply pw_below_drewN | apply below_drew1 | refine below_set ?_ GE106.out) | exact HB.out)⟩
      · rw [if_neg c4] at H
        exact absurd H (by simp)
    · rw [if_neg c3] at H
      exact absurd H (by simp)
  · rw [if_neg c2] at H
    have c2b0 : decide (0 < (a0_0.size : Int)) = false := decide_eq_false c2
    have c2b1 : decide (0 < a0_0.size) = false := decide_eq_false (by omega)
    clear c2
    obtain rfl := Option.some.inj H
    go_enter Try.func39, Try.ntmps39
    go_wp2_with (first | ((with_reducible refine gate_dst (N := 1) rfl ?_); refine box_event ?hg (N := 1) ?hd (cs := #[.string a0_0, .string a0_1]) (t := 44) ?hr ?_; (case hd => rfl); (case hg => rfl); (case hr => first | (go_simp; done) | (go_simp; rfl)); intro gb106 hg w7 hbox hb; have n0_ := Aside0.mk (below_step (by repeat (first | (with_reducible first | exact HB.out | apply below_alloc | apply pw_below_drewN | apply below_drew1) | exact HB.out)) hb); have n1_ := Aside0.mk (hbox); have n2_ := Aside0.mk ((by rw [hg]; exact (below_size (by repeat (first | (with_reducible first | exact HB.out | apply below_alloc | apply pw_below_drewN | apply below_drew1) | exact HB.out))) : w.heap.size ≤ gb106)); have n3_ := Aside0.mk ((by rw [hg]; exact (below_size (by repeat (first | (with_reducible first | exact HB.out | apply below_alloc | apply pw_below_drewN | apply below_drew1) | exact HB.out))) : w.heap.size ≤ gb106)); clear HB; have HB := n0_; have BK106 := n1_; have GW106 := n2_; have GE106 := n3_; clear n0_ n1_ n2_ n3_; clear hb hbox hg; have hcz8_0 : w7.cell? ⟨gb106, 0, none⟩ = some (.string a0_0) := (blk_cell BK106.out 0).trans rfl; have hcz8_1 : w7.cell? ⟨gb106, 1, none⟩ = some (.string a0_1) := (blk_cell BK106.out 1).trans rfl; have hfz8_0 := blk_frozen BK106.out 0; have hfz8_1 := blk_frozen BK106.out 1))
    go_ret
    exact ⟨by first | rfl | (simp [errW_none, errW_some] <;> rfl) | (simp [*, errW_none, errW_some] <;> rfl), by repeat (first | (with_reducible first | exact HB.out | apply below_alloc | apply pw_below_drewN | apply below_drew1 | refine below_set ?_ GE106.out) | exact HB.out)⟩

/-! ### impl_GroupVersionText: function 21 -/
def impl_GroupVersionText.f (a0 : ByteArray) (a1 : ByteArray) : Option (ByteArray) := (schema_GroupVersion_String.f a0 a1).bind fun t107 => (some t107)
set_option maxHeartbeats 8000000 in
set_option maxRecDepth 100000 in
theorem impl_GroupVersionText.calls (a0 : ByteArray) (a1 : ByteArray) (r : ByteArray) (w : World) (h : impl_GroupVersionText.f a0 a1 = some r) :
    Calls Try.prog 21 #[.string a0, .string a1] w fun e w' => e = .returned (.string r) ∧ Below w.heap.size w w' := by
  have hu44 := Try.underlying44
  have HB := Aside0.mk (Below.refl w.heap.size w)
  have H : ((schema_GroupVersion_String.f a0 a1).bind fun t107 => (some t107)) = some r := h
  clear h
  replace H := Option.bind_eq_some_iff.mp H
  obtain ⟨t107, A30, H⟩ := H
  replace H : (some t107) = some r := H
  have A3 := Aside0.mk A30
  clear A30
  obtain rfl := Option.some.inj H
  go_enter Try.func21, Try.ntmps21
  go_wp2_with (first | ((with_reducible refine gate_callee (f := 39) rfl ?_); refine goesL_ (some 8) rfl rfl Try.func39 (by kernel_rfl) rfl #[.agg #[.string a0, .string a1]] rfl (by (try simp only [List.map_toArray, List.map_cons, List.map_nil]); first | done | rfl | (simp only [List.length_drop, List.length_take]; rfl)) ?_; (with_reducible refine (schema_GroupVersion_String.calls a0 a1 t107 _ A3.out).mono ?_); rintro e w4 ⟨rfl, hb⟩; refine ⟨_, rfl, ?_⟩; have n0_ := Aside0.mk (below_step (by repeat (first | (with_reducible first | exact HB.out | apply below_alloc | apply pw_below_drewN | apply below_drew1) | exact HB.out)) hb); clear HB; have HB := n0_; clear n0_; (try clear hb); (try clear hb2); (try clear hk); (try clear hi)))
  go_ret
  exact ⟨by first | rfl | (simp [errW_none, errW_some] <;> rfl) | (simp [*, errW_none, errW_some] <;> rfl), by repeat (first | (with_reducible first | exact HB.out | apply below_alloc | apply pw_below_drewN | apply below_drew1) | exact HB.out)⟩

end Go.Proofs.Ytehgokciafpnbaa.XFnGroupVersionBack
