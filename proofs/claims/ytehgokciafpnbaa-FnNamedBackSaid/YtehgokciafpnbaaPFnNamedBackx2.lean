-- PRINTED BY print.sh 35421559b90ae4d0a3588c463048766b98c2df88dd9212a6774a882060cdf62d: not written by this session
import Derived.Test.YtehgokciafpnbaaPFnNamedBackx0
namespace Go.Proofs.Ytehgokciafpnbaa.PFnNamedBack
open Go.RowKit Go.Proofs.YtehgokciafpnbaaW.PrintWords Go.Proofs.YtehgokciafpnbaaW.PrintLast Go.Proofs.YtehgokciafpnbaaW.PrintMore
attribute [local go_sem] max2_int min2_int max_two min_two max_three min_three max_four min_four   -- for this text's walks alone
set_option linter.unusedVariables false
set_option linter.unusedSimpArgs false

/-! ### spec_verPlace: function 32 -/
def spec_verPlace.l0 : Nat → ByteArray → Int → Int → Option (Int)
  | 0, _, _, _ => none
  | k + 1, x0, x1, x5 => if x5 < (x0.size : Int) then (if 0 ≤ x5 then (if (bt x0 x5) = x1 then (some x5) else (spec_verPlace.l0 k x0 x1 (wrap64 (x5 + 1)))) else (none)) else (some (-1))
def spec_verPlace.f (k : Nat) (a0 : ByteArray) (a1 : Int) : Option (Int) := spec_verPlace.l0 k a0 a1 0
theorem spec_verPlace.mono_l : ∀ k, (∀ y0 y1 y2, LeO (spec_verPlace.l0 k y0 y1 y2) (spec_verPlace.l0 (k + 1) y0 y1 y2))
  | 0 => fun _ _ _ r h => by simp [spec_verPlace.l0] at h
  | k + 1 => by
    have ih0 := spec_verPlace.mono_l k
    · intro y0 y1 y2
      unfold spec_verPlace.l0
      repeat' first
      | (with_reducible exact ih0 _ _ _)
      | (with_reducible exact LeO.refl _)
      | (with_reducible exact LeO.none _)
      | (with_reducible refine LeO.ite ?_ ?_)
      | (with_reducible refine LeO.bind ?_ (fun _ => ?_))
      | exact ih0 _ _ _
      | exact LeO.none _
      | refine LeO.ite ?_ ?_
      | refine LeO.bind ?_ (fun _ => ?_)
theorem spec_verPlace.mono : ∀ a0 a1 k, LeO (spec_verPlace.f k a0 a1) (spec_verPlace.f (k + 1) a0 a1) := by
  intro a0 a1 k
  have ih0 := spec_verPlace.mono_l k
  unfold spec_verPlace.f
  repeat' first
      | (with_reducible exact ih0 _ _ _)
      | (with_reducible exact LeO.refl _)
      | (with_reducible exact LeO.none _)
      | (with_reducible refine LeO.ite ?_ ?_)
      | (with_reducible refine LeO.bind ?_ (fun _ => ?_))
      | exact ih0 _ _ _
      | exact LeO.none _
      | refine LeO.ite ?_ ?_
      | refine LeO.bind ?_ (fun _ => ?_)
set_option maxHeartbeats 8000000 in
set_option maxRecDepth 100000 in
theorem spec_verPlace.calls (k : Nat) (a0 : ByteArray) (a1 : Int) (r : Int) (w : World) (h : spec_verPlace.f k a0 a1 = some r) :
    Calls Try.prog 32 #[.string a0, .int .u8 a1] w fun e w' => e = .returned (.int .i64 r) ∧ Drawn0 w w' := by
  have H : (spec_verPlace.l0 k a0 a1 0) = some r := h
  clear h
  have H' := Aside0.mk H
  clear H
  go_enter Try.func32, Try.ntmps32
  go_wp2
  go_loopg [5] k (fun kq v5 w' => ∃ (x5_1 : Int), v5 = .int .i64 x5_1 ∧ Aside0 (spec_verPlace.l0 kq a0 a1 x5_1 = some r) ∧ Aside0 (kq ≤ k) ∧ Drawn0 w w')
  case atStart => exact ⟨(0), (by first | rfl | (simp; done) | (simp [*]; done)), H', ⟨Nat.le_refl _⟩, by repeat (first | exact Drawn0.refl _ | apply Drawn0.step)⟩
  case round =>
    clear H'
    try clear p2
    obtain ⟨x5_1, rfl, HA, HK1, ⟨m1, rfl⟩⟩ := hrel
    cases gk with
    | zero => exact absurd HA.out (by simp [spec_verPlace.l0])
    | succ k1 =>
      have H := HA.out
      clear HA
      simp only [spec_verPlace.l0] at H
      by_cases c3 : x5_1 < (a0.size : Int)
      · rw [if_pos c3] at H
        have c3b0 : decide (x5_1 < (a0.size : Int)) = true := decide_eq_true c3
        clear c3
        by_cases c4 : 0 ≤ x5_1
        · rw [if_pos c4] at H
          have c4b0 : decide (0 ≤ x5_1) = true := decide_eq_true c4
          clear c4
          by_cases c6 : (bt a0 x5_1) = a1
          · rw [if_pos c6] at H
            have c6b0 : ((bt a0 x5_1) == a1) = true := beq_iff_eq.mpr c6
            have c6b1 : ((bt a0 x5_1) != a1) = false := bne_eq_false_iff_eq.mpr c6
            clear c6
            obtain rfl := Option.some.inj H
            have p5 : 0 ≤ (x5_1 : Int) := of_decide_eq_true (by first | (with_reducible assumption) | assumption)
            have q5 : x5_1 < (a0.size : Int) := of_decide_eq_true (by first | (with_reducible assumption) | assumption)
            have hx5 := bt_at a0 x5_1
            replace p5 := eq_true p5
            replace q5 := eq_true q5
            go_wp2
            go_ret
            exact ⟨by first | rfl | (simp; done) | (simp [*]; done), by repeat (first | exact Drawn0.refl _ | apply Drawn0.step)⟩
          · rw [if_neg c6] at H
            have c6b0 : ((bt a0 x5_1) == a1) = false := beq_eq_false_iff_ne.mpr c6
            have c6b1 : ((bt a0 x5_1) != a1) = true := bne_iff_ne.mpr c6
            have H' := Aside0.mk H
            clear H
            have p5 : 0 ≤ (x5_1 : Int) := of_decide_eq_true (by first | (with_reducible assumption) | assumption)
            have q5 : x5_1 < (a0.size : Int) := of_decide_eq_true (by first | (with_reducible assumption) | assumption)
            have hx5 := bt_at a0 x5_1
            replace p5 := eq_true p5
            replace q5 := eq_true q5
            go_wp2
            go_roundg k1
            case measure => have := HK1.out; omega
            case rel => exact ⟨(wrap64 (x5_1 + 1)), (by first | rfl | (simp; done) | (simp [*]; done)), H', ⟨by have := HK1.out; omega⟩, by repeat (first | exact Drawn0.refl _ | apply Drawn0.step)⟩
        · rw [if_neg c4] at H
          exact absurd H (by simp)
      · rw [if_neg c3] at H
        have c3b0 : decide (x5_1 < (a0.size : Int)) = false := decide_eq_false c3
        clear c3
        obtain rfl := Option.some.inj H
        go_wp2
        go_ret
        exact ⟨by first | rfl | (simp; done) | (simp [*]; done), by repeat (first | exact Drawn0.refl _ | apply Drawn0.step)⟩

/-! ### spec_KindPlain: function 13 -/
def spec_KindPlain.l0 : Nat → ByteArray → ByteArray → Int → Option (Bool)
  | 0, _, _, _ => none
  | k + 1, x0, x1, x5 => if x5 < (x1.size : Int) then (if 0 ≤ x5 then ((spec_verPlace.f k x0 (bt x1 x5)).bind fun t101 => (if t101 ≥ 0 then (some false) else (spec_KindPlain.l0 k x0 x1 (wrap64 (x5 + 1))))) else (none)) else (some true)
def spec_KindPlain.f (k : Nat) (a0 : ByteArray) (a1 : ByteArray) : Option (Bool) := spec_KindPlain.l0 k a0 a1 0
theorem spec_KindPlain.mono_l : ∀ k, (∀ y0 y1 y2, LeO (spec_KindPlain.l0 k y0 y1 y2) (spec_KindPlain.l0 (k + 1) y0 y1 y2))
  | 0 => fun _ _ _ r h => by simp [spec_KindPlain.l0] at h
  | k + 1 => by
    have ih0 := spec_KindPlain.mono_l k
    · intro y0 y1 y2
      unfold spec_KindPlain.l0
      repeat' first
      | (with_reducible exact ih0 _ _ _)
      | (with_reducible exact spec_verPlace.mono _ _ _)
      | (with_reducible exact LeO.refl _)
      | (with_reducible exact LeO.none _)
      | (with_reducible refine LeO.ite ?_ ?_)
      | (with_reducible refine LeO.bind ?_ (fun _ => ?_))
      | exact ih0 _ _ _
      | exact spec_verPlace.mono _ _ _
      | exact LeO.none _
      | refine LeO.ite ?_ ?_
      | refine LeO.bind ?_ (fun _ => ?_)
theorem spec_KindPlain.mono : ∀ a0 a1 k, LeO (spec_KindPlain.f k a0 a1) (spec_KindPlain.f (k + 1) a0 a1) := by
  intro a0 a1 k
  have ih0 := spec_KindPlain.mono_l k
  unfold spec_KindPlain.f
  repeat' first
      | (with_reducible exact ih0 _ _ _)
      | (with_reducible exact spec_verPlace.mono _ _ _)
      | (with_reducible exact LeO.refl _)
      | (with_reducible exact LeO.none _)
      | (with_reducible refine LeO.ite ?_ ?_)
      | (with_reducible refine LeO.bind ?_ (fun _ => ?_))
      | exact ih0 _ _ _
      | exact spec_verPlace.mono _ _ _
      | exact LeO.none _
      | refine LeO.ite ?_ ?_
      | refine LeO.bind ?_ (fun _ => ?_)
set_option maxHeartbeats 8000000 in
set_option maxRecDepth 100000 in
theorem spec_KindPlain.calls (k : Nat) (a0 : ByteArray) (a1 : ByteArray) (r : Bool) (w : World) (h : spec_KindPlain.f k a0 a1 = some r) :
    Calls Try.prog 13 #[.string a0, .string a1] w fun e w' => e = .returned (.bool r) ∧ Drawn0 w w' := by
  have H : (spec_KindPlain.l0 k a0 a1 0) = some r := h
  clear h
  have H' := Aside0.mk H
  clear H
  go_enter Try.func13, Try.ntmps13
  go_wp2
  go_loopg [5] k (fun kq v5 w' => ∃ (x5_1 : Int), v5 = .int .i64 x5_1 ∧ Aside0 (spec_KindPlain.l0 kq a0 a1 x5_1 = some r) ∧ Aside0 (kq ≤ k) ∧ Drawn0 w w')
  case atStart => exact ⟨(0), (by first | rfl | (simp; done) | (simp [*]; done)), H', ⟨Nat.le_refl _⟩, by repeat (first | exact Drawn0.refl _ | apply Drawn0.step)⟩
  case round =>
    clear H'
    try clear c1
    try clear p2
    obtain ⟨x5_1, rfl, HA, HK1, ⟨m1, rfl⟩⟩ := hrel
    cases gk with
    | zero => exact absurd HA.out (by simp [spec_KindPlain.l0])
    | succ k1 =>
      have H := HA.out
      clear HA
      simp only [spec_KindPlain.l0] at H
      by_cases c3 : x5_1 < (a1.size : Int)
      · rw [if_pos c3] at H
        have c3b0 : decide (x5_1 < (a1.size : Int)) = true := decide_eq_true c3
        clear c3
        by_cases c4 : 0 ≤ x5_1
        · rw [if_pos c4] at H
          have c4b0 : decide (0 ≤ x5_1) = true := decide_eq_true c4
          clear c4
          replace H := Option.bind_eq_some_iff.mp H
          obtain ⟨t101, A60, H⟩ := H
          replace H : (if t101 ≥ 0 then (some false) else (spec_KindPlain.l0 k1 a0 a1 (wrap64 (x5_1 + 1)))) = some r := H
          have A6 := Aside0.mk A60
          clear A60
          by_cases c7 : t101 ≥ 0
          · rw [if_pos c7] at H
            have c7b0 : decide (0 ≤ t101) = true := decide_eq_true c7
            clear c7
            obtain rfl := Option.some.inj H
            have p5 : 0 ≤ (x5_1 : Int) := of_decide_eq_true (by first | (with_reducible assumption) | assumption)
            have q5 : x5_1 < (a1.size : Int) := of_decide_eq_true (by first | (with_reducible assumption) | assumption)
            have hx5 := bt_at a1 x5_1
            replace p5 := eq_true p5
            replace q5 := eq_true q5
            go_wp2_with (first | ((with_reducible refine gate_callee (f := 32) rfl ?_); refine goesL_ (some 16) rfl rfl Try.func32 (by kernel_rfl) rfl #[.string a0, .int .u8 (bt a1 x5_1)] rfl (by (try simp only [List.map_toArray, List.map_cons, List.map_nil]); first | done | rfl | (simp only [List.length_drop, List.length_take]; rfl)) ?_; (with_reducible refine (spec_verPlace.calls k1 a0 (bt a1 x5_1) t101 _ A6.out).mono ?_); rintro e w' ⟨rfl, ⟨nd, rfl⟩⟩; refine ⟨_, rfl, ?_⟩))
            go_ret
            exact ⟨by first | rfl | (simp; done) | (simp [*]; done), by repeat (first | exact Drawn0.refl _ | apply Drawn0.step)⟩
          · rw [if_neg c7] at H
            have c7b0 : decide (0 ≤ t101) = false := decide_eq_false c7
            clear c7
            have H' := Aside0.mk H
            clear H
            have p5 : 0 ≤ (x5_1 : Int) := of_decide_eq_true (by first | (with_reducible assumption) | assumption)
            have q5 : x5_1 < (a1.size : Int) := of_decide_eq_true (by first | (with_reducible assumption) | assumption)
            have hx5 := bt_at a1 x5_1
            replace p5 := eq_true p5
            replace q5 := eq_true q5
            go_wp2_with (first | ((with_reducible refine gate_callee (f := 32) rfl ?_); refine goesL_ (some 16) rfl rfl Try.func32 (by kernel_rfl) rfl #[.string a0, .int .u8 (bt a1 x5_1)] rfl (by (try simp only [List.map_toArray, List.map_cons, List.map_nil]); first | done | rfl | (simp only [List.length_drop, List.length_take]; rfl)) ?_; (with_reducible refine (spec_verPlace.calls k1 a0 (bt a1 x5_1) t101 _ A6.out).mono ?_); rintro e w' ⟨rfl, ⟨nd, rfl⟩⟩; refine ⟨_, rfl, ?_⟩))
            go_roundg k1
            case measure => have := HK1.out; omega
            case rel => exact ⟨(wrap64 (x5_1 + 1)), (by first | rfl | (simp; done) | (simp [*]; done)), H', ⟨by have := HK1.out; omega⟩, by repeat (first | exact Drawn0.refl _ | apply Drawn0.step)⟩
        · rw [if_neg c4] at H
          exact absurd H (by simp)
      · rw [if_neg c3] at H
        have c3b0 : decide (x5_1 < (a1.size : Int)) = false := decide_eq_false c3
        clear c3
        obtain rfl := Option.some.inj H
        go_wp2
        go_ret
        exact ⟨by first | rfl | (simp; done) | (simp [*]; done), by repeat (first | exact Drawn0.refl _ | apply Drawn0.step)⟩

/-! ### schema_zzIndex: function 43 -/
def schema_zzIndex.l0 : Nat → ByteArray → ByteArray → Int → Option (Int)
  | 0, _, _, _ => none
  | k + 1, x0, x1, x5 => if (wrap64 (x5 + (x1.size : Int))) ≤ (x0.size : Int) then (if 0 ≤ x5 then (if x5 ≤ (wrap64 (x5 + (x1.size : Int))) then (if (x0.extract (x5 : Int).toNat ((wrap64 (x5 + (x1.size : Int))) : Int).toNat).toList = x1.toList then (some x5) else (schema_zzIndex.l0 k x0 x1 (wrap64 (x5 + 1)))) else (none)) else (none)) else (some (-1))
def schema_zzIndex.f (k : Nat) (a0 : ByteArray) (a1 : ByteArray) : Option (Int) := schema_zzIndex.l0 k a0 a1 0
theorem schema_zzIndex.mono_l : ∀ k, (∀ y0 y1 y2, LeO (schema_zzIndex.l0 k y0 y1 y2) (schema_zzIndex.l0 (k + 1) y0 y1 y2))
  | 0 => fun _ _ _ r h => by simp [schema_zzIndex.l0] at h
  | k + 1 => by
    have ih0 := schema_zzIndex.mono_l k
    · intro y0 y1 y2
      unfold schema_zzIndex.l0
      repeat' first
      | (with_reducible exact ih0 _ _ _)
      | (with_reducible exact LeO.refl _)
      | (with_reducible exact LeO.none _)
      | (with_reducible refine LeO.ite ?_ ?_)
      | (with_reducible refine LeO.bind ?_ (fun _ => ?_))
      | exact ih0 _ _ _
      | exact LeO.none _
      | refine LeO.ite ?_ ?_
      | refine LeO.bind ?_ (fun _ => ?_)
theorem schema_zzIndex.mono : ∀ a0 a1 k, LeO (schema_zzIndex.f k a0 a1) (schema_zzIndex.f (k + 1) a0 a1) := by
  intro a0 a1 k
  have ih0 := schema_zzIndex.mono_l k
  unfold schema_zzIndex.f
  repeat' first
      | (with_reducible exact ih0 _ _ _)
      | (with_reducible exact LeO.refl _)
      | (with_reducible exact LeO.none _)
      | (with_reducible refine LeO.ite ?_ ?_)
      | (with_reducible refine LeO.bind ?_ (fun _ => ?_))
      | exact ih0 _ _ _
      | exact LeO.none _
      | refine LeO.ite ?_ ?_
      | refine LeO.bind ?_ (fun _ => ?_)
set_option maxHeartbeats 8000000 in
set_option maxRecDepth 100000 in
theorem schema_zzIndex.calls (k : Nat) (a0 : ByteArray) (a1 : ByteArray) (r : Int) (w : World) (h : schema_zzIndex.f k a0 a1 = some r) :
    Calls Try.prog 43 #[.string a0, .string a1] w fun e w' => e = .returned (.int .i64 r) ∧ Drawn0 w w' := by
  have H : (schema_zzIndex.l0 k a0 a1 0) = some r := h
  clear h
  have H' := Aside0.mk H
  clear H
  go_enter Try.func43, Try.ntmps43
  go_wp2
  go_loopg [5] k (fun kq v5 w' => ∃ (x5_1 : Int), v5 = .int .i64 x5_1 ∧ Aside0 (schema_zzIndex.l0 kq a0 a1 x5_1 = some r) ∧ Aside0 (kq ≤ k) ∧ Drawn0 w w')
  case atStart => exact ⟨(0), (by first | rfl | (simp; done) | (simp [*]; done)), H', ⟨Nat.le_refl _⟩, by repeat (first | exact Drawn0.refl _ | apply Drawn0.step)⟩
  case round =>
    clear H'
    try clear p2
    obtain ⟨x5_1, rfl, HA, HK1, ⟨m1, rfl⟩⟩ := hrel
    cases gk with
    | zero => exact absurd HA.out (by simp [schema_zzIndex.l0])
    | succ k1 =>
      have H := HA.out
      clear HA
      simp only [schema_zzIndex.l0] at H
      by_cases c3 : (wrap64 (x5_1 + (a1.size : Int))) ≤ (a0.size : Int)
      · rw [if_pos c3] at H
        have c3b0 : decide ((wrap64 (x5_1 + (a1.size : Int))) ≤ (a0.size : Int)) = true := decide_eq_true c3
        clear c3
        by_cases c4 : 0 ≤ x5_1
        · rw [if_pos c4] at H
          have c4b0 := eq_true c4
          have c4b1 : decide (0 ≤ x5_1) = true := decide_eq_true c4
          clear c4
          by_cases c5 : x5_1 ≤ (wrap64 (x5_1 + (a1.size : Int)))
          · rw [if_pos c5] at H
            have c5b0 := eq_true c5
            have c5b1 : decide (x5_1 ≤ (wrap64 (x5_1 + (a1.size : Int)))) = true := decide_eq_true c5
            have c6b0 := eq_true (of_decide_eq_true (by first | (with_reducible assumption) | assumption) : (wrap64 (x5_1 + (a1.size : Int))) ≤ (a0.size : Int))
            by_cases c7 : (a0.extract (x5_1 : Int).toNat ((wrap64 (x5_1 + (a1.size : Int))) : Int).toNat).toList = a1.toList
            · rw [if_pos c7] at H
              have c7b0 : ((a0.extract (x5_1 : Int).toNat ((wrap64 (x5_1 + (a1.size : Int))) : Int).toNat).toList == a1.toList) = true := beq_iff_eq.mpr c7
              have c7b1 : ((a0.extract (x5_1 : Int).toNat ((wrap64 (x5_1 + (a1.size : Int))) : Int).toNat).toList != a1.toList) = false := bne_eq_false_iff_eq.mpr c7
              clear c7
              obtain rfl := Option.some.inj H
              go_wp2
              go_ret
              exact ⟨by first | rfl | (simp; done) | (simp [*]; done), by repeat (first | exact Drawn0.refl _ | apply Drawn0.step)⟩
            · rw [if_neg c7] at H
              have c7b0 : ((a0.extract (x5_1 : Int).toNat ((wrap64 (x5_1 + (a1.size : Int))) : Int).toNat).toList == a1.toList) = false := beq_eq_false_iff_ne.mpr c7
              have c7b1 : ((a0.extract (x5_1 : Int).toNat ((wrap64 (x5_1 + (a1.size : Int))) : Int).toNat).toList != a1.toList) = true := bne_iff_ne.mpr c7
              have H' := Aside0.mk H
              clear H
              go_wp2
              go_roundg k1
              case measure => have := HK1.out; omega
              case rel => exact ⟨(wrap64 (x5_1 + 1)), (by first | rfl | (simp; done) | (simp [*]; done)), H', ⟨by have := HK1.out; omega⟩, by repeat (first | exact Drawn0.refl _ | apply Drawn0.step)⟩
          · rw [if_neg c5] at H
            exact absurd H (by simp)
        · rw [if_neg c4] at H
          exact absurd H (by simp)
      · rw [if_neg c3] at H
        have c3b0 : decide ((wrap64 (x5_1 + (a1.size : Int))) ≤ (a0.size : Int)) = false := decide_eq_false c3
        clear c3
        obtain rfl := Option.some.inj H
        go_wp2
        go_ret
        exact ⟨by first | rfl | (simp; done) | (simp [*]; done), by repeat (first | exact Drawn0.refl _ | apply Drawn0.step)⟩

/-! ### schema_ParseGroupKind: function 33 -/
def schema_ParseGroupKind.f (k : Nat) (a0 : ByteArray) : Option (ByteArray × ByteArray) := (schema_zzIndex.f k a0 (⟨#[46]⟩ : ByteArray)).bind fun t103 => (if t103 = (-1) then (some ((⟨#[]⟩ : ByteArray), a0)) else (if 0 ≤ (wrap64 (t103 + 1)) then (if (wrap64 (t103 + 1)) ≤ (a0.size : Int) then (if 0 ≤ t103 then (if t103 ≤ (a0.size : Int) then (some (a0.extract ((wrap64 (t103 + 1)) : Int).toNat a0.size, a0.extract 0 (t103 : Int).toNat)) else (none)) else (none)) else (none)) else (none)))
theorem schema_ParseGroupKind.mono : ∀ a0 k, LeO (schema_ParseGroupKind.f k a0) (schema_ParseGroupKind.f (k + 1) a0) := by
  intro a0 k
  unfold schema_ParseGroupKind.f
  repeat' first
      | (with_reducible exact schema_zzIndex.mono _ _ _)
      | (with_reducible exact LeO.refl _)
      | (with_reducible exact LeO.none _)
      | (with_reducible refine LeO.ite ?_ ?_)
      | (with_reducible refine LeO.bind ?_ (fun _ => ?_))
      | exact schema_zzIndex.mono _ _ _
      | exact LeO.none _
      | refine LeO.ite ?_ ?_
      | refine LeO.bind ?_ (fun _ => ?_)
def schema_ParseGroupKind.T4 : Bool × List (List Nat × List Nat) := (true, [([], []), ([], []), ([1], [1]), ([0, 2], [0, 2]), ([], []), ([], []), ([4, 5], [4, 5]), ([3, 6], [3, 6]), ([7, 0, 1, 2, 3, 4, 5, 6, 7], [7])])
def schema_ParseGroupKind.B4 : List Nat := [0, 0, 2, 7, 0, 0, 48, 127, 255]
theorem schema_ParseGroupKind.tab4 : rtab .any (opsOf Try.f33 4) = schema_ParseGroupKind.T4 := by kernel_rfl
theorem schema_ParseGroupKind.bits4 : waitsOk schema_ParseGroupKind.T4.2 schema_ParseGroupKind.B4 = true := by kernel_rfl
set_option maxHeartbeats 8000000 in
set_option maxRecDepth 100000 in
theorem schema_ParseGroupKind.calls (k : Nat) (a0 : ByteArray) (r1 : ByteArray) (r2 : ByteArray) (w : World) (h : schema_ParseGroupKind.f k a0 = some (r1, r2)) :
    Calls Try.prog 33 #[.string a0] w fun e w' => e = .returned (.agg #[.string r1, .string r2]) ∧ Below w.heap.size w w' := by
  have hu47 := Try.underlying47
  have HB := Aside0.mk (Below.refl w.heap.size w)
  have H : ((schema_zzIndex.f k a0 (⟨#[46]⟩ : ByteArray)).bind fun t103 => (if t103 = (-1) then (some ((⟨#[]⟩ : ByteArray), a0)) else (if 0 ≤ (wrap64 (t103 + 1)) then (if (wrap64 (t103 + 1)) ≤ (a0.size : Int) then (if 0 ≤ t103 then (if t103 ≤ (a0.size : Int) then (some (a0.extract ((wrap64 (t103 + 1)) : Int).toNat a0.size, a0.extract 0 (t103 : Int).toNat)) else (none)) else (none)) else (none)) else (none)))) = some (r1, r2) := h
  clear h
  replace H := Option.bind_eq_some_iff.mp H
  obtain ⟨t103, A20, H⟩ := H
  replace H : (if t103 = (-1) then (some ((⟨#[]⟩ : ByteArray), a0)) else (if 0 ≤ (wrap64 (t103 + 1)) then (if (wrap64 (t103 + 1)) ≤ (a0.size : Int) then (if 0 ≤ t103 then (if t103 ≤ (a0.size : Int) then (some (a0.extract ((wrap64 (t103 + 1)) : Int).toNat a0.size, a0.extract 0 (t103 : Int).toNat)) else (none)) else (none)) else (none)) else (none))) = some (r1, r2) := H
  have A2 := Aside0.mk A20
  clear A20
  by_cases c3 : t103 = (-1)
  · rw [if_pos c3] at H
    have c3b0 : (t103 == (-1)) = true := beq_iff_eq.mpr c3
    have c3b1 : (t103 != (-1)) = false := bne_eq_false_iff_eq.mpr c3
    clear c3
    simp only [Option.some.injEq, Prod.mk.injEq] at H
    obtain ⟨rfl, rfl⟩ := H
    go_enter Try.func33, Try.ntmps33
    go_wp2_with (first | ((with_reducible refine gate_dst (N := 2) rfl ?_); refine box_event ?hg (N := 2) ?hd (cs := #[.string (⟨#[]⟩ : ByteArray), .string (⟨#[]⟩ : ByteArray)]) (t := 47) ?hr ?_; (case hd => rfl); (case hg => rfl); (case hr => first | (go_simp; done) | (go_simp; rfl)); intro gb102 hg w4 hbox hb; have n0_ := Aside0.mk (below_step (by repeat (first | (with_reducible first | exact HB.out | apply below_alloc | apply pw_below_drewN | apply below_drew1) | exact HB.out)) hb); have n1_ := Aside0.mk (hbox); have n2_ := Aside0.mk ((by rw [hg]; exact (below_size (by repeat (first | (with_reducible first | exact HB.out | apply below_alloc | apply pw_below_drewN | apply below_drew1) | exact HB.out))) : w.heap.size ≤ gb102)); have n3_ := Aside0.mk ((by rw [hg]; exact (below_size (by repeat (first | (with_reducible first | exact HB.out | apply below_alloc | apply pw_below_drewN | apply below_drew1) | exact HB.out))) : w.heap.size ≤ gb102)); clear HB; have HB := n0_; have BK102 := n1_; have GW102 := n2_; have GE102 := n3_; clear n0_ n1_ n2_ n3_; clear hb hbox hg) | ((with_reducible refine gate_callee (f := 43) rfl ?_); refine goesL_ (some 5) rfl rfl Try.func43 (by kernel_rfl) rfl #[.string a0, .string (⟨#[46]⟩ : ByteArray)] rfl (by (try simp only [List.map_toArray, List.map_cons, List.map_nil]); first | done | rfl | (simp only [List.length_drop, List.length_take]; rfl)) ?_; (with_reducible refine (schema_zzIndex.calls k a0 (⟨#[46]⟩ : ByteArray) t103 _ A2.out).mono ?_); rintro e w' ⟨rfl, ⟨nd, rfl⟩⟩; refine ⟨_, rfl, ?_⟩; (try (rw [drewN_self w4]; generalize hq_ : World.drewN w4 _ = w4; have n0_ : Aside0 (w4.heap[gb102]? = some (.cells #[.string (⟨#[]⟩ : ByteArray), .string (⟨#[]⟩ : ByteArray)] 47 (0, 0))) := ⟨by rw [← hq_]; exact (by (with_reducible repeat (first | refine blk_drewN ?_ _ | refine blk_drew ?_ | refine blk_alloc ?_ _)); exact BK102.out)⟩; have n1_ : Aside0 (Below w.heap.size w w4) := ⟨by rw [← hq_]; exact (by repeat (first | (with_reducible first | exact HB.out | apply below_alloc | apply pw_below_drewN | apply below_drew1 | refine below_set ?_ GE102.out) | exact HB.out))⟩; clear BK102 HB hq_; have BK102 := n0_; have HB := n1_; clear n0_ n1_)); have hcz5_0 : w4.cell? ⟨gb102, 0, none⟩ = some (.string (⟨#[]⟩ : ByteArray)) := (blk_cell BK102.out 0).trans rfl; have hcz5_1 : w4.cell? ⟨gb102, 1, none⟩ = some (.string (⟨#[]⟩ : ByteArray)) := (blk_cell BK102.out 1).trans rfl; have hfz5_0 := blk_frozen BK102.out 0; have hfz5_1 := blk_frozen BK102.out 1))
    refine bodyPost_ret (results_cell_row rfl _ _ gb102 47 #[.string (⟨#[]⟩ : ByteArray), .string a0] (0, 0) _ rfl (by (with_reducible repeat (first | refine blk_drewN ?_ _ | refine blk_drew ?_ | refine blk_alloc ?_ _)); refine blk_put (cs := #[.string (⟨#[]⟩ : ByteArray), .string (⟨#[]⟩ : ByteArray)]) ?_ 1 _ rfl; (with_reducible repeat (first | refine blk_drewN ?_ _ | refine blk_drew ?_ | refine blk_alloc ?_ _)); refine blk_put (cs := #[.string (⟨#[]⟩ : ByteArray), .string (⟨#[]⟩ : ByteArray)]) ?_ 0 _ rfl; (with_reducible repeat (first | refine blk_drewN ?_ _ | refine blk_drew ?_ | refine blk_alloc ?_ _)); exact BK102.out) Try.underlying47 rfl (by kernel_rfl)) rfl ?_
    exact ⟨by first | rfl | (simp [errW_none, errW_some] <;> rfl) | (simp [*, errW_none, errW_some] <;> rfl), by repeat (first | (with_reducible first | exact HB.out | apply below_alloc | apply pw_below_drewN | apply below_drew1 | refine below_set ?_ GE102.out) | exact HB.out)⟩
  · rw [if_neg c3] at H
    have c3b0 : (t103 == (-1)) = false := beq_eq_false_iff_ne.mpr c3
    have c3b1 : (t103 != (-1)) = true := bne_iff_ne.mpr c3
    obtain ⟨ji6, hji6⟩ : ∃ j_ : Int, (wrap64 (t103 + 1)) = j_ := ⟨_, rfl⟩
    replace H : (if 0 ≤ (ji6) then (if (ji6) ≤ (a0.size : Int) then (if 0 ≤ t103 then (if t103 ≤ (a0.size : Int) then (some (a0.extract ((ji6) : Int).toNat a0.size, a0.extract 0 (t103 : Int).toNat)) else (none)) else (none)) else (none)) else (none)) = some (r1, r2) := by first | (rw [hji6] at H; exact H) | (simp only [hji6] at H ⊢; exact H)
    (try rw [hji6] at A2)
    have hji6w : (IntKind.i64.wrap (t103 + 1)) = ji6 := (i64_w _).trans hji6
    by_cases c7 : 0 ≤ (ji6)
    · rw [if_pos c7] at H
      have c7b0 := eq_true c7
      have c7b1 : decide (0 ≤ (ji6)) = true := decide_eq_true c7
      clear c7
      by_cases c8 : (ji6) ≤ (a0.size : Int)
      · rw [if_pos c8] at H
        have c8b0 := eq_true c8
        have c8b1 : decide ((ji6) ≤ (a0.size : Int)) = true := decide_eq_true c8
        clear c8
        by_cases c9 : 0 ≤ t103
        · rw [if_pos c9] at H
          have c9b0 := eq_true c9
          have c9b1 : decide (0 ≤ t103) = true := decide_eq_true c9
          clear c9
          by_cases c10 : t103 ≤ (a0.size : Int)
          · rw [if_pos c10] at H
            have c10b0 := eq_true c10
            have c10b1 : decide (t103 ≤ (a0.size : Int)) = true := decide_eq_true c10
            clear c10
            simp only [Option.some.injEq, Prod.mk.injEq] at H
            obtain ⟨rfl, rfl⟩ := H
            go_enter Try.func33, Try.ntmps33
            try go_wp2_with (first | ((with_reducible refine gate_dst (N := 2) rfl ?_); refine box_event ?hg (N := 2) ?hd (cs := #[.string (⟨#[]⟩ : ByteArray), .string (⟨#[]⟩ : ByteArray)]) (t := 47) ?hr ?_; (case hd => rfl); (case hg => rfl); (case hr => first | (go_simp; done) | (go_simp; rfl)); intro gb102 hg w11 hbox hb; have n0_ := Aside0.mk (below_step (by repeat (first | (with_reducible first | exact HB.out | apply below_alloc | apply pw_below_drewN | apply below_drew1) | exact HB.out)) hb); have n1_ := Aside0.mk (hbox); have n2_ := Aside0.mk ((by rw [hg]; exact (below_size (by repeat (first | (with_reducible first | exact HB.out | apply below_alloc | apply pw_below_drewN | apply below_drew1) | exact HB.out))) : w.heap.size ≤ gb102)); have n3_ := Aside0.mk ((by rw [hg]; exact (below_size (by repeat (first | (with_reducible first | exact HB.out | apply below_alloc | apply pw_below_drewN | apply below_drew1) | exact HB.out))) : w.heap.size ≤ gb102)); clear HB; have HB := n0_; have BK102 := n1_; have GW102 := n2_; have GE102 := n3_; clear n0_ n1_ n2_ n3_; clear hb hbox hg) | ((with_reducible refine gate_callee (f := 43) rfl ?_); refine goesL_ (some 5) rfl rfl Try.func43 (by kernel_rfl) rfl #[.string a0, .string (⟨#[46]⟩ : ByteArray)] rfl (by (try simp only [List.map_toArray, List.map_cons, List.map_nil]); first | done | rfl | (simp only [List.length_drop, List.length_take]; rfl)) ?_; (with_reducible refine (schema_zzIndex.calls k a0 (⟨#[46]⟩ : ByteArray) t103 _ A2.out).mono ?_); rintro e w' ⟨rfl, ⟨nd, rfl⟩⟩; refine ⟨_, rfl, ?_⟩; (try (rw [drewN_self w11]; generalize hq_ : World.drewN w11 _ = w11; have n0_ : Aside0 (w11.heap[gb102]? = some (.cells #[.string (⟨#[]⟩ : ByteArray), .string (⟨#[]⟩ : ByteArray)] 47 (0, 0))) := ⟨by rw [← hq_]; exact (by (with_reducible repeat (first | refine blk_drewN ?_ _ | refine blk_drew ?_ | refine blk_alloc ?_ _)); exact BK102.out)⟩; have n1_ : Aside0 (Below w.heap.size w w11) := ⟨by rw [← hq_]; exact (by repeat (first | (with_reducible first | exact HB.out | apply below_alloc | apply pw_below_drewN | apply below_drew1 | refine below_set ?_ GE102.out) | exact HB.out))⟩; clear BK102 HB hq_; have BK102 := n0_; have HB := n1_; clear n0_ n1_))))
            have n0_ := Aside0.mk (blk_drew BK102.out)
            have n1_ := Aside0.mk (below_drew1 HB.out)
            clear BK102
            clear HB
            have BK102 := n0_
            have HB := n1_
            clear n0_ n1_
            refine start_ (n := 9) (S := fun w' => True) (ds := []) #[false, false, false, false, false, false, false, false, false] (by kernel_rfl) rfl rfl trivial (fun hHeld => ?_); refine with_tabW schema_ParseGroupKind.tab4 schema_ParseGroupKind.bits4 (fun HT_ HW_ => ?_)
            generalize w11.drew = w12 at BK102 HB hHeld ⊢
            refine pure_ (i := 0) (N := some 10) (v := ?_) (a' := ?_) #[true, false, false, false, false, false, false, false, false] rfl rfl (any_of HT_.out (by kernel_rfl)) (fun _ _ _ h => h) (Or.inl ⟨by rfl, ?_⟩) ?_ ?_
            rotate_left
            · intro w'
              go_simp
              with_reducible rfl
            rotate_left
            · simp only [Act.put, List.setIfInBounds_toArray, List.set_cons_zero, List.set_cons_succ, i64_w, i32_w]
              rfl
            refine pure_ (i := 1) (N := some 11) (v := ?_) (a' := ?_) #[true, true, false, false, false, false, false, false, false] rfl rfl (any_of HT_.out (by kernel_rfl)) (fun _ _ _ h => h) (Or.inl ⟨by rfl, ?_⟩) ?_ ?_
            rotate_left
            · intro w'
              go_simp
              with_reducible rfl
            rotate_left
            · simp only [Act.put, List.setIfInBounds_toArray, List.set_cons_zero, List.set_cons_succ, i64_w, i32_w]
              rfl
            refine pure_ (i := 2) (N := some 12) (v := ?_) (a' := ?_) #[true, true, true, false, false, false, false, false, false] rfl rfl (any_of HT_.out (by kernel_rfl)) (fun _ _ _ h => h) (Or.inl ⟨by rfl, ?_⟩) ?_ ?_
            rotate_left
            · intro w'
              go_simp
              with_reducible rfl
            rotate_left
            · simp only [Act.put, List.setIfInBounds_toArray, List.set_cons_zero, List.set_cons_succ, i64_w, i32_w]
              rfl
            refine pure_ (i := 3) (N := some 13) (v := ?_) (a' := ?_) #[true, true, true, true, false, false, false, false, false] rfl rfl (any_of HT_.out (by kernel_rfl)) (fun _ _ _ h => h) (Or.inl ⟨by rfl, ?_⟩) ?_ ?_
            rotate_left
            · intro w'
              go_simp
              with_reducible rfl
            rotate_left
            · simp only [Act.put, List.setIfInBounds_toArray, List.set_cons_zero, List.set_cons_succ, i64_w, i32_w]
              rfl
            refine pure_ (i := 4) (N := some 14) (v := ?_) (a' := ?_) #[true, true, true, true, true, false, false, false, false] rfl rfl (any_of HT_.out (by kernel_rfl)) (fun _ _ _ h => h) (Or.inl ⟨by rfl, ?_⟩) ?_ ?_
            rotate_left
            · intro w'
              go_simp
              with_reducible rfl
            rotate_left
            · simp only [Act.put, List.setIfInBounds_toArray, List.set_cons_zero, List.set_cons_succ, i64_w, i32_w]
              rfl
            refine pure_ (i := 5) (N := some 15) (v := ?_) (a' := ?_) #[true, true, true, true, true, true, false, false, false] rfl rfl (any_of HT_.out (by kernel_rfl)) (fun _ _ _ h => h) (Or.inl ⟨by rfl, ?_⟩) ?_ ?_
            rotate_left
            · intro w'
              go_simp
              with_reducible rfl
            rotate_left
            · simp only [Act.put, List.setIfInBounds_toArray, List.set_cons_zero, List.set_cons_succ, i64_w, i32_w]
              rfl
            refine pure_ (i := 6) (N := some 16) (v := ?_) (a' := ?_) #[true, true, true, true, true, true, true, false, false] rfl rfl (any_of HT_.out (by kernel_rfl)) (fun _ _ _ h => h) (Or.inl ⟨by rfl, ?_⟩) ?_ ?_
            rotate_left
            · intro w'
              go_simp
              with_reducible rfl
            rotate_left
            · simp only [Act.put, List.setIfInBounds_toArray, List.set_cons_zero, List.set_cons_succ, i64_w, i32_w]
              rfl
            refine pure_ (i := 7) (N := some 17) (v := ?_) (a' := ?_) #[true, true, true, true, true, true, true, true, false] rfl rfl (any_of HT_.out (by kernel_rfl)) (fun _ _ _ h => h) (Or.inl ⟨by rfl, ?_⟩) ?_ ?_
            rotate_left
            · intro w'
              go_simp
              with_reducible rfl
            rotate_left
            · simp only [Act.put, List.setIfInBounds_toArray, List.set_cons_zero, List.set_cons_succ, i64_w, i32_w]
              rfl
            refine one_ (i := 8) (N := none) #[true, true, true, true, true, true, true, true, true] rfl rfl (one_of HT_.out (by kernel_rfl)) (by decide) (fun K hK => ?_)
            have hs13 : w12.cell? ⟨gb102, 0, none⟩ = some (.string (⟨#[]⟩ : ByteArray)) := (blk_cell BK102.out 0).trans rfl
            have hfs13 := blk_frozen BK102.out 0
            have hs14 : w12.cell? ⟨gb102, 1, none⟩ = some (.string (⟨#[]⟩ : ByteArray)) := (blk_cell BK102.out 1).trans rfl
            have hfs14 := blk_frozen BK102.out 1
            refine skip_ (w1 := ?_) (by rfl) rfl ?_ ?_
            rotate_left
            · go_simp
              rfl
            refine hK.out _ _ trivial (fun hHeld => ?_)
            clear hK K
            refine done_ (done_of HT_.out (by kernel_rfl)) ?_
            try go_wp2
            refine bodyPost_ret (results_cell_row rfl _ _ gb102 47 #[.string (a0.extract ((ji6) : Int).toNat a0.size), .string (a0.extract 0 (t103 : Int).toNat)] (0, 0) _ rfl (by (with_reducible repeat (first | refine blk_drewN ?_ _ | refine blk_drew ?_ | refine blk_alloc ?_ _)); refine blk_put (cs := #[.string (a0.extract ((ji6) : Int).toNat a0.size), .string (⟨#[]⟩ : ByteArray)]) ?_ 1 _ rfl; (with_reducible repeat (first | refine blk_drewN ?_ _ | refine blk_drew ?_ | refine blk_alloc ?_ _)); refine blk_put (cs := #[.string (⟨#[]⟩ : ByteArray), .string (⟨#[]⟩ : ByteArray)]) ?_ 0 _ rfl; (with_reducible repeat (first | refine blk_drewN ?_ _ | refine blk_drew ?_ | refine blk_alloc ?_ _)); exact BK102.out) Try.underlying47 rfl (by kernel_rfl)) rfl ?_
            exact ⟨by first | rfl | (simp [errW_none, errW_some] <;> rfl) | (simp only [← hji6]; first | rfl | (simp [errW_none, errW_some] <;> rfl)) | (simp [*, errW_none, errW_some] <;> rfl), by repeat (first | (with_reducible first | exact HB.out | apply below_alloc | apply pw_below_drewN | apply below_drew1 | refine below_set ?_ GE102.out) | exact HB.out)⟩
          · rw [if_neg c10] at H
            exact absurd H (by simp)
        · rw [if_neg c9] at H
          exact absurd H (by simp)
      · rw [if_neg c8] at H
        exact absurd H (by simp)
    · rw [if_neg c7] at H
      exact absurd H (by simp)

/-! ### impl_GroupKindParse: function 14 -/
def impl_GroupKindParse.f (k : Nat) (a0 : ByteArray) : Option (ByteArray × ByteArray × ByteArray) := (schema_ParseGroupKind.f k a0).bind fun bt105 => (some (bt105.1, (⟨#[]⟩ : ByteArray), bt105.2))
theorem impl_GroupKindParse.mono : ∀ a0 k, LeO (impl_GroupKindParse.f k a0) (impl_GroupKindParse.f (k + 1) a0) := by
  intro a0 k
  unfold impl_GroupKindParse.f
  repeat' first
      | (with_reducible exact schema_ParseGroupKind.mono _ _)
      | (with_reducible exact LeO.refl _)
      | (with_reducible exact LeO.none _)
      | (with_reducible refine LeO.ite ?_ ?_)
      | (with_reducible refine LeO.bind ?_ (fun _ => ?_))
      | exact schema_ParseGroupKind.mono _ _
      | exact LeO.none _
      | refine LeO.ite ?_ ?_
      | refine LeO.bind ?_ (fun _ => ?_)
set_option maxHeartbeats 8000000 in
set_option maxRecDepth 100000 in
theorem impl_GroupKindParse.calls (k : Nat) (a0 : ByteArray) (r1 : ByteArray) (r2 : ByteArray) (r3 : ByteArray) (w : World) (h : impl_GroupKindParse.f k a0 = some (r1, r2, r3)) :
    Calls Try.prog 14 #[.string a0] w fun e w' => e = .returned (.agg #[.string r1, .string r2, .string r3]) ∧ Below w.heap.size w w' := by
  have hu26 := Try.underlying26
  have hu47 := Try.underlying47
  have HB := Aside0.mk (Below.refl w.heap.size w)
  have H : ((schema_ParseGroupKind.f k a0).bind fun bt105 => (some (bt105.1, (⟨#[]⟩ : ByteArray), bt105.2))) = some (r1, r2, r3) := h
  clear h
  replace H := Option.bind_eq_some_iff.mp H
  obtain ⟨⟨t105, t106⟩, A20, H⟩ := H
  replace H : (some (t105, (⟨#[]⟩ : ByteArray), t106)) = some (r1, r2, r3) := H
  have A2 := Aside0.mk A20
  clear A20
  simp only [Option.some.injEq, Prod.mk.injEq] at H
  obtain ⟨rfl, rfl, rfl⟩ := H
  go_enter Try.func14, Try.ntmps14
  go_wp2_with (first | ((with_reducible refine gate_dst (N := 2) rfl ?_); refine box_event ?hg (N := 2) ?hd (cs := #[.string (⟨#[]⟩ : ByteArray), .string (⟨#[]⟩ : ByteArray), .string (⟨#[]⟩ : ByteArray)]) (t := 26) ?hr ?_; (case hd => rfl); (case hg => rfl); (case hr => first | (go_simp; done) | (go_simp; rfl)); intro gb104 hg w3 hbox hb; have n0_ := Aside0.mk (below_step (by repeat (first | (with_reducible first | exact HB.out | apply below_alloc | apply pw_below_drewN | apply below_drew1) | exact HB.out)) hb); have n1_ := Aside0.mk (hbox); have n2_ := Aside0.mk ((by rw [hg]; exact (below_size (by repeat (first | (with_reducible first | exact HB.out | apply below_alloc | apply pw_below_drewN | apply below_drew1) | exact HB.out))) : w.heap.size ≤ gb104)); have n3_ := Aside0.mk ((by rw [hg]; exact (below_size (by repeat (first | (with_reducible first | exact HB.out | apply below_alloc | apply pw_below_drewN | apply below_drew1) | exact HB.out))) : w.heap.size ≤ gb104)); clear HB; have HB := n0_; have BK104 := n1_; have GW104 := n2_; have GE104 := n3_; clear n0_ n1_ n2_ n3_; clear hb hbox hg) | ((with_reducible refine gate_callee (f := 33) rfl ?_); refine goesL_ (some 5) rfl rfl Try.func33 (by kernel_rfl) rfl #[.string a0] rfl (by (try simp only [List.map_toArray, List.map_cons, List.map_nil]); first | done | rfl | (simp only [List.length_drop, List.length_take]; rfl)) ?_; (with_reducible refine (schema_ParseGroupKind.calls k a0 t105 t106 _ A2.out).mono ?_); rintro e w4 ⟨rfl, hb⟩; refine ⟨_, rfl, ?_⟩; have n0_ := Aside0.mk (blk_below (g := gb104) (o := .cells #[.string (⟨#[]⟩ : ByteArray), .string (⟨#[]⟩ : ByteArray), .string (⟨#[]⟩ : ByteArray)] 26 (0, 0)) (by (with_reducible repeat (first | refine blk_drewN ?_ _ | refine blk_drew ?_ | refine blk_alloc ?_ _)); exact BK104.out) hb); have n1_ := Aside0.mk (below_step (by repeat (first | (with_reducible first | exact HB.out | apply below_alloc | apply pw_below_drewN | apply below_drew1 | refine below_set ?_ GE104.out) | exact HB.out)) hb); clear BK104; clear HB; have BK104 := n0_; have HB := n1_; clear n0_ n1_; (try clear hb); (try clear hb2); (try clear hk); (try clear hi)) | ((with_reducible refine gate_dst (N := 3) rfl ?_); refine box_event ?hg (N := 3) ?hd (cs := #[.string (⟨#[]⟩ : ByteArray), .string (⟨#[]⟩ : ByteArray)]) (t := 47) ?hr ?_; (case hd => rfl); (case hg => rfl); (case hr => first | (go_simp; done) | (go_simp; rfl)); intro gb107 hg w5 hbox hb; have n0_ := Aside0.mk (blk_below (g := gb104) (o := .cells #[.string (⟨#[]⟩ : ByteArray), .string (⟨#[]⟩ : ByteArray), .string (⟨#[]⟩ : ByteArray)] 26 (0, 0)) (by (with_reducible repeat (first | refine blk_drewN ?_ _ | refine blk_drew ?_ | refine blk_alloc ?_ _)); exact BK104.out) hb); have n1_ := Aside0.mk (below_step (by repeat (first | (with_reducible first | exact HB.out | apply below_alloc | apply pw_below_drewN | apply below_drew1 | refine below_set ?_ GE104.out) | exact HB.out)) hb); have n2_ := Aside0.mk (hbox); have n3_ := Aside0.mk ((by rw [hg]; exact (below_size (by repeat (first | (with_reducible first | exact HB.out | apply below_alloc | apply pw_below_drewN | apply below_drew1 | refine below_set ?_ GE104.out) | exact HB.out))) : w.heap.size ≤ gb107)); have n4_ := Aside0.mk ((by rw [hg]; exact (below_size (by repeat (first | (with_reducible first | exact HB.out | apply below_alloc | apply pw_below_drewN | apply below_drew1 | refine below_set ?_ GE104.out) | exact HB.out))) : w.heap.size ≤ gb107)); have n5_ := Aside0.mk ((by rw [hg]; exact Nat.ne_of_lt (blk_lt (g := gb104) (o := .cells #[.string (⟨#[]⟩ : ByteArray), .string (⟨#[]⟩ : ByteArray), .string (⟨#[]⟩ : ByteArray)] 26 (0, 0)) (by (with_reducible repeat (first | refine blk_drewN ?_ _ | refine blk_drew ?_ | refine blk_alloc ?_ _)); exact BK104.out)) : gb104 ≠ gb107)); have n6_ := Aside0.mk ((by rw [hg]; exact Nat.ne_of_gt (blk_lt (g := gb104) (o := .cells #[.string (⟨#[]⟩ : ByteArray), .string (⟨#[]⟩ : ByteArray), .string (⟨#[]⟩ : ByteArray)] 26 (0, 0)) (by (with_reducible repeat (first | refine blk_drewN ?_ _ | refine blk_drew ?_ | refine blk_alloc ?_ _)); exact BK104.out)) : gb107 ≠ gb104)); clear BK104; clear HB; have BK104 := n0_; have HB := n1_; have BK107 := n2_; have GW107 := n3_; have GE107 := n4_; have NB104_107 := n5_; have NB107_104 := n6_; clear n0_ n1_ n2_ n3_ n4_ n5_ n6_; clear hb hbox hg; have hnb6 := NB107_104.out; have hnc6 := NB104_107.out; have hcz7_0 : w5.cell? ⟨gb107, 0, none⟩ = some (.string (⟨#[]⟩ : ByteArray)) := (blk_cell BK107.out 0).trans rfl; have hcz7_1 : w5.cell? ⟨gb107, 1, none⟩ = some (.string (⟨#[]⟩ : ByteArray)) := (blk_cell BK107.out 1).trans rfl; have hfz7_0 := blk_frozen BK107.out 0; have hfz7_1 := blk_frozen BK107.out 1; have hcz8_0 : w5.cell? ⟨gb104, 0, none⟩ = some (.string (⟨#[]⟩ : ByteArray)) := (blk_cell BK104.out 0).trans rfl; have hcz8_1 : w5.cell? ⟨gb104, 1, none⟩ = some (.string (⟨#[]⟩ : ByteArray)) := (blk_cell BK104.out 1).trans rfl; have hcz8_2 : w5.cell? ⟨gb104, 2, none⟩ = some (.string (⟨#[]⟩ : ByteArray)) := (blk_cell BK104.out 2).trans rfl; have hfz8_0 := blk_frozen BK104.out 0; have hfz8_1 := blk_frozen BK104.out 1; have hfz8_2 := blk_frozen BK104.out 2))
  refine bodyPost_ret (results_cell_row rfl _ _ gb104 26 #[.string t105, .string (⟨#[]⟩ : ByteArray), .string t106] (0, 0) _ rfl (by (with_reducible repeat (first | refine blk_drewN ?_ _ | refine blk_drew ?_ | refine blk_alloc ?_ _)); refine blk_put (cs := #[.string t105, .string (⟨#[]⟩ : ByteArray), .string (⟨#[]⟩ : ByteArray)]) ?_ 2 _ rfl; (with_reducible repeat (first | refine blk_drewN ?_ _ | refine blk_drew ?_ | refine blk_alloc ?_ _)); refine blk_put (cs := #[.string t105, .string (⟨#[]⟩ : ByteArray), .string (⟨#[]⟩ : ByteArray)]) ?_ 1 _ rfl; (with_reducible repeat (first | refine blk_drewN ?_ _ | refine blk_drew ?_ | refine blk_alloc ?_ _)); refine blk_put (cs := #[.string (⟨#[]⟩ : ByteArray), .string (⟨#[]⟩ : ByteArray), .string (⟨#[]⟩ : ByteArray)]) ?_ 0 _ rfl; (with_reducible repeat (first | refine blk_drewN ?_ _ | refine blk_drew ?_ | refine blk_alloc ?_ _)); refine blk_far ?_ NB104_107.out _; (with_reducible repeat (first | refine blk_drewN ?_ _ | refine blk_drew ?_ | refine blk_alloc ?_ _)); refine blk_far ?_ NB104_107.out _; (with_reducible repeat (first | refine blk_drewN ?_ _ | refine blk_drew ?_ | refine blk_alloc ?_ _)); exact BK104.out) Try.underlying26 rfl (by kernel_rfl)) rfl ?_
  exact ⟨by first | rfl | (simp [errW_none, errW_some] <;> rfl) | (simp [*, errW_none, errW_some] <;> rfl), by repeat (first | (with_reducible first | exact HB.out | apply below_alloc | apply pw_below_drewN | apply below_drew1 | refine below_set ?_ GE104.out | refine below_set ?_ GE107.out) | exact HB.out)⟩

/-! ### schema_GroupKind_String: function 34 -/
def schema_GroupKind_String.f (a0_0 : ByteArray) (a0_1 : ByteArray) : Option (ByteArray) := if (a0_0.size : Int) = 0 then (some a0_1) else (if a0_1.size + 1 ≤ 9223372036854775807 then (if (a0_1 ++ (⟨#[46]⟩ : ByteArray)).size + a0_0.size ≤ 9223372036854775807 then (some ((a0_1 ++ (⟨#[46]⟩ : ByteArray)) ++ a0_0)) else (none)) else (none))
set_option maxHeartbeats 8000000 in
set_option maxRecDepth 100000 in
theorem schema_GroupKind_String.calls (a0_0 : ByteArray) (a0_1 : ByteArray) (r : ByteArray) (w : World) (h : schema_GroupKind_String.f a0_0 a0_1 = some r) :
    Calls Try.prog 34 #[.agg #[.string a0_0, .string a0_1]] w fun e w' => e = .returned (.string r) ∧ Below w.heap.size w w' := by
  have hu47 := Try.underlying47
  have HB := Aside0.mk (Below.refl w.heap.size w)
  have H : (if (a0_0.size : Int) = 0 then (some a0_1) else (if a0_1.size + 1 ≤ 9223372036854775807 then (if (a0_1 ++ (⟨#[46]⟩ : ByteArray)).size + a0_0.size ≤ 9223372036854775807 then (some ((a0_1 ++ (⟨#[46]⟩ : ByteArray)) ++ a0_0)) else (none)) else (none))) = some r := h
  clear h
  by_cases c2 : (a0_0.size : Int) = 0
  · rw [if_pos c2] at H
    have c2b0 : ((a0_0.size : Int) == 0) = true := beq_iff_eq.mpr c2
    have c2b1 : ((a0_0.size : Int) != 0) = false := bne_eq_false_iff_eq.mpr c2
    clear c2
    obtain rfl := Option.some.inj H
    go_enter Try.func34, Try.ntmps34
    go_wp2_with (first | ((with_reducible refine gate_dst (N := 1) rfl ?_); refine box_event ?hg (N := 1) ?hd (cs := #[.string a0_0, .string a0_1]) (t := 47) ?hr ?_; (case hd => rfl); (case hg => rfl); (case hr => first | (go_simp; done) | (go_simp; rfl)); intro gb108 hg w3 hbox hb; have n0_ := Aside0.mk (below_step (by repeat (first | (with_reducible first | exact HB.out | apply below_alloc | apply pw_below_drewN | apply below_drew1) | exact HB.out)) hb); have n1_ := Aside0.mk (hbox); have n2_ := Aside0.mk ((by rw [hg]; exact (below_size (by repeat (first | (with_reducible first | exact HB.out | apply below_alloc | apply pw_below_drewN | apply below_drew1) | exact HB.out))) : w.heap.size ≤ gb108)); have n3_ := Aside0.mk ((by rw [hg]; exact (below_size (by repeat (first | (with_reducible first | exact HB.out | apply below_alloc | apply pw_below_drewN | apply below_drew1) | exact HB.out))) : w.heap.size ≤ gb108)); clear HB; have HB := n0_; have BK108 := n1_; have GW108 := n2_; have GE108 := n3_; clear n0_ n1_ n2_ n3_; clear hb hbox hg; have hcz4_0 : w3.cell? ⟨gb108, 0, none⟩ = some (.string a0_0) := (blk_cell BK108.out 0).trans rfl; have hcz4_1 : w3.cell? ⟨gb108, 1, none⟩ = some (.string a0_1) := (blk_cell BK108.out 1).trans rfl; have hfz4_0 := blk_frozen BK108.out 0; have hfz4_1 := blk_frozen BK108.out 1))
    go_ret
    exact ⟨by first | rfl | (simp [errW_none, errW_some] <;> rfl) | (simp [*, errW_none, errW_some] <;> rfl), by repeat (first | (with_reducible first | exact HB.out | apply below_alloc | apply pw_below_drewN | apply below_drew1 | refine below_set ?_ GE108.out) | exact HB.out)⟩
  · rw [if_neg c2] at H
    have c2b0 : ((a0_0.size : Int) == 0) = false := beq_eq_false_iff_ne.mpr c2
    have c2b1 : ((a0_0.size : Int) != 0) = true := bne_iff_ne.mpr c2
    by_cases c5 : a0_1.size + 1 ≤ 9223372036854775807
    · rw [if_pos c5] at H
      have c5b0 := eq_true c5
      have c5b1 : decide (a0_1.size + 1 ≤ 9223372036854775807) = true := decide_eq_true c5
      try have c5b2 : (9223372036854775807 < a0_1.size + 1) = False := eq_false (Nat.not_lt.2 c5)
      by_cases c6 : (a0_1 ++ (⟨#[46]⟩ : ByteArray)).size + a0_0.size ≤ 9223372036854775807
      · rw [if_pos c6] at H
        have c6b0 := eq_true c6
        have c6b1 : decide ((a0_1 ++ (⟨#[46]⟩ : ByteArray)).size + a0_0.size ≤ 9223372036854775807) = true := decide_eq_true c6
        try have c6b2 : (9223372036854775807 < (a0_1 ++ (⟨#[46]⟩ : ByteArray)).size + a0_0.size) = False := eq_false (Nat.not_lt.2 c6)
        obtain rfl := Option.some.inj H
        go_enter Try.func34, Try.ntmps34
        go_wp2_with (first | ((with_reducible refine gate_dst (N := 1) rfl ?_); refine box_event ?hg (N := 1) ?hd (cs := #[.string a0_0, .string a0_1]) (t := 47) ?hr ?_; (case hd => rfl); (case hg => rfl); (case hr => first | (go_simp; done) | (go_simp; rfl)); intro gb108 hg w7 hbox hb; have n0_ := Aside0.mk (below_step (by repeat (first | (with_reducible first | exact HB.out | apply below_alloc | apply pw_below_drewN | apply below_drew1) | exact HB.out)) hb); have n1_ := Aside0.mk (hbox); have n2_ := Aside0.mk ((by rw [hg]; exact (below_size (by repeat (first | (with_reducible first | exact HB.out | apply below_alloc | apply pw_below_drewN | apply below_drew1) | exact HB.out))) : w.heap.size ≤ gb108)); have n3_ := Aside0.mk ((by rw [hg]; exact (below_size (by repeat (first | (with_reducible first | exact HB.out | apply below_alloc | apply pw_below_drewN | apply below_drew1) | exact HB.out))) : w.heap.size ≤ gb108)); clear HB; have HB := n0_; have BK108 := n1_; have GW108 := n2_; have GE108 := n3_; clear n0_ n1_ n2_ n3_; clear hb hbox hg; have hcz8_0 : w7.cell? ⟨gb108, 0, none⟩ = some (.string a0_0) := (blk_cell BK108.out 0).trans rfl; have hcz8_1 : w7.cell? ⟨gb108, 1, none⟩ = some (.string a0_1) := (blk_cell BK108.out 1).trans rfl; have hfz8_0 := blk_frozen BK108.out 0; have hfz8_1 := blk_frozen BK108.out 1))
        go_ret
        exact ⟨by first | rfl | (simp [errW_none, errW_some] <;> rfl) | (simp [*, errW_none, errW_some] <;> rfl), by repeat (first | (with_reducible first | exact HB.out | apply below_alloc | apply pw_below_drewN | apply below_drew1 | refine below_set ?_ GE108.out) | exact HB.out)⟩
      · rw [if_neg c6] at H
        exact absurd H (by simp)
    · rw [if_neg c5] at H
      exact absurd H (by simp)

/-! ### impl_GroupKindText: function 15 -/
def impl_GroupKindText.f (a0 : ByteArray) (a1 : ByteArray) : Option (ByteArray) := (schema_GroupKind_String.f a0 a1).bind fun t109 => (some t109)
set_option maxHeartbeats 8000000 in
set_option maxRecDepth 100000 in
theorem impl_GroupKindText.calls (a0 : ByteArray) (a1 : ByteArray) (r : ByteArray) (w : World) (h : impl_GroupKindText.f a0 a1 = some r) :
    Calls Try.prog 15 #[.string a0, .string a1] w fun e w' => e = .returned (.string r) ∧ Below w.heap.size w w' := by
  have hu47 := Try.underlying47
  have HB := Aside0.mk (Below.refl w.heap.size w)
  have H : ((schema_GroupKind_String.f a0 a1).bind fun t109 => (some t109)) = some r := h
  clear h
  replace H := Option.bind_eq_some_iff.mp H
  obtain ⟨t109, A30, H⟩ := H
  replace H : (some t109) = some r := H
  have A3 := Aside0.mk A30
  clear A30
  obtain rfl := Option.some.inj H
  go_enter Try.func15, Try.ntmps15
  go_wp2_with (first | ((with_reducible refine gate_callee (f := 34) rfl ?_); refine goesL_ (some 8) rfl rfl Try.func34 (by kernel_rfl) rfl #[.agg #[.string a0, .string a1]] rfl (by (try simp only [List.map_toArray, List.map_cons, List.map_nil]); first | done | rfl | (simp only [List.length_drop, List.length_take]; rfl)) ?_; (with_reducible refine (schema_GroupKind_String.calls a0 a1 t109 _ A3.out).mono ?_); rintro e w4 ⟨rfl, hb⟩; refine ⟨_, rfl, ?_⟩; have n0_ := Aside0.mk (below_step (by repeat (first | (with_reducible first | exact HB.out | apply below_alloc | apply pw_below_drewN | apply below_drew1) | exact HB.out)) hb); clear HB; have HB := n0_; clear n0_; (try clear hb); (try clear hb2); (try clear hk); (try clear hi)))
  go_ret
  exact ⟨by first | rfl | (simp [errW_none, errW_some] <;> rfl) | (simp [*, errW_none, errW_some] <;> rfl), by repeat (first | (with_reducible first | exact HB.out | apply below_alloc | apply pw_below_drewN | apply below_drew1) | exact HB.out)⟩

/-! ### schema_ParseGroupResource: function 35 -/
def schema_ParseGroupResource.f (k : Nat) (a0 : ByteArray) : Option (ByteArray × ByteArray) := (schema_zzIndex.f k a0 (⟨#[46]⟩ : ByteArray)).bind fun t111 => (if t111 ≥ 0 then (if 0 ≤ (wrap64 (t111 + 1)) then (if (wrap64 (t111 + 1)) ≤ (a0.size : Int) then (if 0 ≤ t111 then (if t111 ≤ (a0.size : Int) then (some (a0.extract ((wrap64 (t111 + 1)) : Int).toNat a0.size, a0.extract 0 (t111 : Int).toNat)) else (none)) else (none)) else (none)) else (none)) else (some ((⟨#[]⟩ : ByteArray), a0)))
theorem schema_ParseGroupResource.mono : ∀ a0 k, LeO (schema_ParseGroupResource.f k a0) (schema_ParseGroupResource.f (k + 1) a0) := by
  intro a0 k
  unfold schema_ParseGroupResource.f
  repeat' first
      | (with_reducible exact schema_zzIndex.mono _ _ _)
      | (with_reducible exact LeO.refl _)
      | (with_reducible exact LeO.none _)
      | (with_reducible refine LeO.ite ?_ ?_)
      | (with_reducible refine LeO.bind ?_ (fun _ => ?_))
      | exact schema_zzIndex.mono _ _ _
      | exact LeO.none _
      | refine LeO.ite ?_ ?_
      | refine LeO.bind ?_ (fun _ => ?_)
def schema_ParseGroupResource.T3 : Bool × List (List Nat × List Nat) := (true, [([], []), ([], []), ([1], [1]), ([0, 2], [0, 2]), ([], []), ([], []), ([4, 5], [4, 5]), ([3, 6], [3, 6]), ([7, 0, 1, 2, 3, 4, 5, 6, 7], [7])])
def schema_ParseGroupResource.B3 : List Nat := [0, 0, 2, 7, 0, 0, 48, 127, 255]
theorem schema_ParseGroupResource.tab3 : rtab .any (opsOf Try.f35 3) = schema_ParseGroupResource.T3 := by kernel_rfl
theorem schema_ParseGroupResource.bits3 : waitsOk schema_ParseGroupResource.T3.2 schema_ParseGroupResource.B3 = true := by kernel_rfl
set_option maxHeartbeats 8000000 in
set_option maxRecDepth 100000 in
theorem schema_ParseGroupResource.calls (k : Nat) (a0 : ByteArray) (r1 : ByteArray) (r2 : ByteArray) (w : World) (h : schema_ParseGroupResource.f k a0 = some (r1, r2)) :
    Calls Try.prog 35 #[.string a0] w fun e w' => e = .returned (.agg #[.string r1, .string r2]) ∧ Below w.heap.size w w' := by
  have hu49 := Try.underlying49
  have HB := Aside0.mk (Below.refl w.heap.size w)
  have H : ((schema_zzIndex.f k a0 (⟨#[46]⟩ : ByteArray)).bind fun t111 => (if t111 ≥ 0 then (if 0 ≤ (wrap64 (t111 + 1)) then (if (wrap64 (t111 + 1)) ≤ (a0.size : Int) then (if 0 ≤ t111 then (if t111 ≤ (a0.size : Int) then (some (a0.extract ((wrap64 (t111 + 1)) : Int).toNat a0.size, a0.extract 0 (t111 : Int).toNat)) else (none)) else (none)) else (none)) else (none)) else (some ((⟨#[]⟩ : ByteArray), a0)))) = some (r1, r2) := h
  clear h
  replace H := Option.bind_eq_some_iff.mp H
  obtain ⟨t111, A20, H⟩ := H
  replace H : (if t111 ≥ 0 then (if 0 ≤ (wrap64 (t111 + 1)) then (if (wrap64 (t111 + 1)) ≤ (a0.size : Int) then (if 0 ≤ t111 then (if t111 ≤ (a0.size : Int) then (some (a0.extract ((wrap64 (t111 + 1)) : Int).toNat a0.size, a0.extract 0 (t111 : Int).toNat)) else (none)) else (none)) else (none)) else (none)) else (some ((⟨#[]⟩ : ByteArray), a0))) = some (r1, r2) := H
  have A2 := Aside0.mk A20
  clear A20
  by_cases c3 : t111 ≥ 0
  · rw [if_pos c3] at H
    have c3b0 : decide (0 ≤ t111) = true := decide_eq_true c3
    clear c3
    obtain ⟨ji4, hji4⟩ : ∃ j_ : Int, (wrap64 (t111 + 1)) = j_ := ⟨_, rfl⟩
    replace H : (if 0 ≤ (ji4) then (if (ji4) ≤ (a0.size : Int) then (if 0 ≤ t111 then (if t111 ≤ (a0.size : Int) then (some (a0.extract ((ji4) : Int).toNat a0.size, a0.extract 0 (t111 : Int).toNat)) else (none)) else (none)) else (none)) else (none)) = some (r1, r2) := by first | (rw [hji4] at H; exact H) | (simp only [hji4] at H ⊢; exact H)
    (try rw [hji4] at A2)
    have hji4w : (IntKind.i64.wrap (t111 + 1)) = ji4 := (i64_w _).trans hji4
    by_cases c5 : 0 ≤ (ji4)
    · rw [if_pos c5] at H
      have c5b0 := eq_true c5
      have c5b1 : decide (0 ≤ (ji4)) = true := decide_eq_true c5
      clear c5
      by_cases c6 : (ji4) ≤ (a0.size : Int)
      · rw [if_pos c6] at H
        have c6b0 := eq_true c6
        have c6b1 : decide ((ji4) ≤ (a0.size : Int)) = true := decide_eq_true c6
        clear c6
        by_cases c7 : 0 ≤ t111
        · rw [if_pos c7] at H
          have c7b0 := eq_true c7
          have c7b1 : decide (0 ≤ t111) = true := decide_eq_true c7
          clear c7
          by_cases c8 : t111 ≤ (a0.size : Int)
          · rw [if_pos c8] at H
            have c8b0 := eq_true c8
            have c8b1 : decide (t111 ≤ (a0.size : Int)) = true := decide_eq_true c8
            clear c8
            simp only [Option.some.injEq, Prod.mk.injEq] at H
            obtain ⟨rfl, rfl⟩ := H
            go_enter Try.func35, Try.ntmps35
            try go_wp2_with (first | ((with_reducible refine gate_dst (N := 2) rfl ?_); refine box_event ?hg (N := 2) ?hd (cs := #[.string (⟨#[]⟩ : ByteArray), .string (⟨#[]⟩ : ByteArray)]) (t := 49) ?hr ?_; (case hd => rfl); (case hg => rfl); (case hr => first | (go_simp; done) | (go_simp; rfl)); intro gb110 hg w9 hbox hb; have n0_ := Aside0.mk (below_step (by repeat (first | (with_reducible first | exact HB.out | apply below_alloc | apply pw_below_drewN | apply below_drew1) | exact HB.out)) hb); have n1_ := Aside0.mk (hbox); have n2_ := Aside0.mk ((by rw [hg]; exact (below_size (by repeat (first | (with_reducible first | exact HB.out | apply below_alloc | apply pw_below_drewN | apply below_drew1) | exact HB.out))) : w.heap.size ≤ gb110)); have n3_ := Aside0.mk ((by rw [hg]; exact (below_size (by repeat (first | (with_reducible first | exact HB.out | apply below_alloc | apply pw_below_drewN | apply below_drew1) | exact HB.out))) : w.heap.size ≤ gb110)); clear HB; have HB := n0_; have BK110 := n1_; have GW110 := n2_; have GE110 := n3_; clear n0_ n1_ n2_ n3_; clear hb hbox hg) | ((with_reducible refine gate_callee (f := 43) rfl ?_); refine goesL_ (some 5) rfl rfl Try.func43 (by kernel_rfl) rfl #[.string a0, .string (⟨#[46]⟩ : ByteArray)] rfl (by (try simp only [List.map_toArray, List.map_cons, List.map_nil]); first | done | rfl | (simp only [List.length_drop, List.length_take]; rfl)) ?_; (with_reducible refine (schema_zzIndex.calls k a0 (⟨#[46]⟩ : ByteArray) t111 _ A2.out).mono ?_); rintro e w' ⟨rfl, ⟨nd, rfl⟩⟩; refine ⟨_, rfl, ?_⟩; (try (rw [drewN_self w9]; generalize hq_ : World.drewN w9 _ = w9; have n0_ : Aside0 (w9.heap[gb110]? = some (.cells #[.string (⟨#[]⟩ : ByteArray), .string (⟨#[]⟩ : ByteArray)] 49 (0, 0))) := ⟨by rw [← hq_]; exact (by (with_reducible repeat (first | refine blk_drewN ?_ _ | refine blk_drew ?_ | refine blk_alloc ?_ _)); exact BK110.out)⟩; have n1_ : Aside0 (Below w.heap.size w w9) := ⟨by rw [← hq_]; exact (by repeat (first | (with_reducible first | exact HB.out | apply below_alloc | apply pw_below_drewN | apply below_drew1 | refine below_set ?_ GE110.out) | exact HB.out))⟩; clear BK110 HB hq_; have BK110 := n0_; have HB := n1_; clear n0_ n1_))))
            have n0_ := Aside0.mk (blk_drew BK110.out)
            have n1_ := Aside0.mk (below_drew1 HB.out)
            clear BK110
            clear HB
            have BK110 := n0_
            have HB := n1_
            clear n0_ n1_
            refine start_ (n := 9) (S := fun w' => True) (ds := []) #[false, false, false, false, false, false, false, false, false] (by kernel_rfl) rfl rfl trivial (fun hHeld => ?_); refine with_tabW schema_ParseGroupResource.tab3 schema_ParseGroupResource.bits3 (fun HT_ HW_ => ?_)
            generalize w9.drew = w10 at BK110 HB hHeld ⊢
            refine pure_ (i := 0) (N := some 8) (v := ?_) (a' := ?_) #[true, false, false, false, false, false, false, false, false] rfl rfl (any_of HT_.out (by kernel_rfl)) (fun _ _ _ h => h) (Or.inl ⟨by rfl, ?_⟩) ?_ ?_
            rotate_left
            · intro w'
              go_simp
              with_reducible rfl
            rotate_left
            · simp only [Act.put, List.setIfInBounds_toArray, List.set_cons_zero, List.set_cons_succ, i64_w, i32_w]
              rfl
            refine pure_ (i := 1) (N := some 9) (v := ?_) (a' := ?_) #[true, true, false, false, false, false, false, false, false] rfl rfl (any_of HT_.out (by kernel_rfl)) (fun _ _ _ h => h) (Or.inl ⟨by rfl, ?_⟩) ?_ ?_
            rotate_left
            · intro w'
              go_simp
              with_reducible rfl
            rotate_left
            · simp only [Act.put, List.setIfInBounds_toArray, List.set_cons_zero, List.set_cons_succ, i64_w, i32_w]
              rfl
            refine pure_ (i := 2) (N := some 10) (v := ?_) (a' := ?_) #[true, true, true, false, false, false, false, false, false] rfl rfl (any_of HT_.out (by kernel_rfl)) (fun _ _ _ h => h) (Or.inl ⟨by rfl, ?_⟩) ?_ ?_
            rotate_left
            · intro w'
              go_simp
              with_reducible rfl
            rotate_left
            · simp only [Act.put, List.setIfInBounds_toArray, List.set_cons_zero, List.set_cons_succ, i64_w, i32_w]
              rfl
            refine pure_ (i := 3) (N := some 11) (v := ?_) (a' := ?_) #[true, true, true, true, false, false, false, false, false] rfl rfl (any_of HT_.out (by kernel_rfl)) (fun _ _ _ h => h) (Or.inl ⟨by rfl, ?_⟩) ?_ ?_
            rotate_left
            · intro w'
              go_simp
              with_reducible rfl
            rotate_left
            · simp only [Act.put, List.setIfInBounds_toArray, List.set_cons_zero, List.set_cons_succ, i64_w, i32_w]
              rfl
            refine pure_ (i := 4) (N := some 12) (v := ?_) (a' := ?_) #[true, true, true, true, true, false, false, false, false] rfl rfl (any_of HT_.out (by kernel_rfl)) (fun _ _ _ h => h) (Or.inl ⟨by rfl, ?_⟩) ?_ ?_
            rotate_left
            · intro w'
              go_simp
              with_reducible rfl
            rotate_left
            · simp only [Act.put, List.setIfInBounds_toArray, List.set_cons_zero, List.set_cons_succ, i64_w, i32_w]
              rfl
            refine pure_ (i := 5) (N := some 13) (v := ?_) (a' := ?_) #[true, true, true, true, true, true, false, false, false] rfl rfl (any_of HT_.out (by kernel_rfl)) (fun _ _ _ h => h) (Or.inl ⟨by rfl, ?_⟩) ?_ ?_
            rotate_left
            · intro w'
              go_simp
              with_reducible rfl
            rotate_left
            · simp only [Act.put, List.setIfInBounds_toArray, List.set_cons_zero, List.set_cons_succ, i64_w, i32_w]
              rfl
            refine pure_ (i := 6) (N := some 14) (v := ?_) (a' := ?_) #[true, true, true, true, true, true, true, false, false] rfl rfl (any_of HT_.out (by kernel_rfl)) (fun _ _ _ h => h) (Or.inl ⟨by rfl, ?_⟩) ?_ ?_
            rotate_left
            · intro w'
              go_simp
              with_reducible rfl
            rotate_left
            · simp only [Act.put, List.setIfInBounds_toArray, List.set_cons_zero, List.set_cons_succ, i64_w, i32_w]
              rfl
            refine pure_ (i := 7) (N := some 15) (v := ?_) (a' := ?_) #[true, true, true, true, true, true, true, true, false] rfl rfl (any_of HT_.out (by kernel_rfl)) (fun _ _ _ h => h) (Or.inl ⟨by rfl, ?_⟩) ?_ ?_
            rotate_left
            · intro w'
              go_simp
              with_reducible rfl
            rotate_left
            · simp only [Act.put, List.setIfInBounds_toArray, List.set_cons_zero, List.set_cons_succ, i64_w, i32_w]
              rfl
            refine one_ (i := 8) (N := none) #[true, true, true, true, true, true, true, true, true] rfl rfl (one_of HT_.out (by kernel_rfl)) (by decide) (fun K hK => ?_)
            have hs11 : w10.cell? ⟨gb110, 0, none⟩ = some (.string (⟨#[]⟩ : ByteArray)) := (blk_cell BK110.out 0).trans rfl
            have hfs11 := blk_frozen BK110.out 0
            have hs12 : w10.cell? ⟨gb110, 1, none⟩ = some (.string (⟨#[]⟩ : ByteArray)) := (blk_cell BK110.out 1).trans rfl
            have hfs12 := blk_frozen BK110.out 1
            refine skip_ (w1 := ?_) (by rfl) rfl ?_ ?_
            rotate_left
            · go_simp
              rfl
            refine hK.out _ _ trivial (fun hHeld => ?_)
            clear hK K
            refine done_ (done_of HT_.out (by kernel_rfl)) ?_
            try go_wp2
            refine bodyPost_ret (results_cell_row rfl _ _ gb110 49 #[.string (a0.extract ((ji4) : Int).toNat a0.size), .string (a0.extract 0 (t111 : Int).toNat)] (0, 0) _ rfl (by (with_reducible repeat (first | refine blk_drewN ?_ _ | refine blk_drew ?_ | refine blk_alloc ?_ _)); refine blk_put (cs := #[.string (a0.extract ((ji4) : Int).toNat a0.size), .string (⟨#[]⟩ : ByteArray)]) ?_ 1 _ rfl; (with_reducible repeat (first | refine blk_drewN ?_ _ | refine blk_drew ?_ | refine blk_alloc ?_ _)); refine blk_put (cs := #[.string (⟨#[]⟩ : ByteArray), .string (⟨#[]⟩ : ByteArray)]) ?_ 0 _ rfl; (with_reducible repeat (first | refine blk_drewN ?_ _ | refine blk_drew ?_ | refine blk_alloc ?_ _)); exact BK110.out) Try.underlying49 rfl (by kernel_rfl)) rfl ?_
            exact ⟨by first | rfl | (simp [errW_none, errW_some] <;> rfl) | (simp only [← hji4]; first | rfl | (simp [errW_none, errW_some] <;> rfl)) | (simp [*, errW_none, errW_some] <;> rfl), by repeat (first | (with_reducible first | exact HB.out | apply below_alloc | apply pw_below_drewN | apply below_drew1 | refine below_set ?_ GE110.out) | exact HB.out)⟩
          · rw [if_neg c8] at H
            exact absurd H (by simp)
        · rw [if_neg c7] at H
          exact absurd H (by simp)
      · rw [if_neg c6] at H
        exact absurd H (by simp)
    · rw [if_neg c5] at H
      exact absurd H (by simp)
  · rw [if_neg c3] at H
    have c3b0 : decide (0 ≤ t111) = false := decide_eq_false c3
    clear c3
    simp only [Option.some.injEq, Prod.mk.injEq] at H
    obtain ⟨rfl, rfl⟩ := H
    go_enter Try.func35, Try.ntmps35
    go_wp2_with (first | ((with_reducible refine gate_dst (N := 2) rfl ?_); refine box_event ?hg (N := 2) ?hd (cs := #[.string (⟨#[]⟩ : ByteArray), .string (⟨#[]⟩ : ByteArray)]) (t := 49) ?hr ?_; (case hd => rfl); (case hg => rfl); (case hr => first | (go_simp; done) | (go_simp; rfl)); intro gb110 hg w13 hbox hb; have n0_ := Aside0.mk (below_step (by repeat (first | (with_reducible first | exact HB.out | apply below_alloc | apply pw_below_drewN | apply below_drew1) | exact HB.out)) hb); have n1_ := Aside0.mk (hbox); have n2_ := Aside0.mk ((by rw [hg]; exact (below_size (by repeat (first | (with_reducible first | exact HB.out | apply below_alloc | apply pw_below_drewN | apply below_drew1) | exact HB.out))) : w.heap.size ≤ gb110)); have n3_ := Aside0.mk ((by rw [hg]; exact (below_size (by repeat (first | (with_reducible first | exact HB.out | apply below_alloc | apply pw_below_drewN | apply below_drew1) | exact HB.out))) : w.heap.size ≤ gb110)); clear HB; have HB := n0_; have BK110 := n1_; have GW110 := n2_; have GE110 := n3_; clear n0_ n1_ n2_ n3_; clear hb hbox hg) | ((with_reducible refine gate_callee (f := 43) rfl ?_); refine goesL_ (some 5) rfl rfl Try.func43 (by kernel_rfl) rfl #[.string a0, .string (⟨#[46]⟩ : ByteArray)] rfl (by (try simp only [List.map_toArray, List.map_cons, List.map_nil]); first | done | rfl | (simp only [List.length_drop, List.length_take]; rfl)) ?_; (with_reducible refine (schema_zzIndex.calls k a0 (⟨#[46]⟩ : ByteArray) t111 _ A2.out).mono ?_); rintro e w' ⟨rfl, ⟨nd, rfl⟩⟩; refine ⟨_, rfl, ?_⟩; (try (rw [drewN_self w13]; generalize hq_ : World.drewN w13 _ = w13; have n0_ : Aside0 (w13.heap[gb110]? = some (.cells #[.string (⟨#[]⟩ : ByteArray), .string (⟨#[]⟩ : ByteArray)] 49 (0, 0))) := ⟨by rw [← hq_]; exact (by (with_reducible repeat (first | refine blk_drewN ?_ _ | refine blk_drew ?_ | refine blk_alloc ?_ _)); exact BK110.out)⟩; have n1_ : Aside0 (Below w.heap.size w w13) := ⟨by rw [← hq_]; exact (by repeat (first | (with_reducible first | exact HB.out | apply below_alloc | apply pw_below_drewN | apply below_drew1 | refine below_set ?_ GE110.out) | exact HB.out))⟩; clear BK110 HB hq_; have BK110 := n0_; have HB := n1_; clear n0_ n1_)); have hcz14_0 : w13.cell? ⟨gb110, 0, none⟩ = some (.string (⟨#[]⟩ : ByteArray)) := (blk_cell BK110.out 0).trans rfl; have hcz14_1 : w13.cell? ⟨gb110, 1, none⟩ = some (.string (⟨#[]⟩ : ByteArray)) := (blk_cell BK110.out 1).trans rfl; have hfz14_0 := blk_frozen BK110.out 0; have hfz14_1 := blk_frozen BK110.out 1))
    refine bodyPost_ret (results_cell_row rfl _ _ gb110 49 #[.string (⟨#[]⟩ : ByteArray), .string a0] (0, 0) _ rfl (by (with_reducible repeat (first | refine blk_drewN ?_ _ | refine blk_drew ?_ | refine blk_alloc ?_ _)); refine blk_put (cs := #[.string (⟨#[]⟩ : ByteArray), .string (⟨#[]⟩ : ByteArray)]) ?_ 1 _ rfl; (with_reducible repeat (first | refine blk_drewN ?_ _ | refine blk_drew ?_ | refine blk_alloc ?_ _)); refine blk_put (cs := #[.string (⟨#[]⟩ : ByteArray), .string (⟨#[]⟩ : ByteArray)]) ?_ 0 _ rfl; (with_reducible repeat (first | refine blk_drewN ?_ _ | refine blk_drew ?_ | refine blk_alloc ?_ _)); exact BK110.out) Try.underlying49 rfl (by kernel_rfl)) rfl ?_
    exact ⟨by first | rfl | (simp [errW_none, errW_some] <;> rfl) | (simp [*, errW_none, errW_some] <;> rfl), by repeat (first | (with_reducible first | exact HB.out | apply below_alloc | apply pw_below_drewN | apply below_drew1 | refine below_set ?_ GE110.out) | exact HB.out)⟩

/-! ### impl_GroupResourceParse: function 16 -/
def impl_GroupResourceParse.f (k : Nat) (a0 : ByteArray) : Option (ByteArray × ByteArray × ByteArray) := (schema_ParseGroupResource.f k a0).bind fun bt113 => (some (bt113.1, (⟨#[]⟩ : ByteArray), bt113.2))
theorem impl_GroupResourceParse.mono : ∀ a0 k, LeO (impl_GroupResourceParse.f k a0) (impl_GroupResourceParse.f (k + 1) a0) := by
  intro a0 k
  unfold impl_GroupResourceParse.f
  repeat' first
      | (with_reducible exact schema_ParseGroupResource.mono _ _)
      | (with_reducible exact LeO.refl _)
      | (with_reducible exact LeO.none _)
      | (with_reducible refine LeO.ite ?_ ?_)
      | (with_reducible refine LeO.bind ?_ (fun _ => ?_))
      | exact schema_ParseGroupResource.mono _ _
      | exact LeO.none _
      | refine LeO.ite ?_ ?_
      | refine LeO.bind ?_ (fun _ => ?_)
set_option maxHeartbeats 8000000 in
set_option maxRecDepth 100000 in
theorem impl_GroupResourceParse.calls (k : Nat) (a0 : ByteArray) (r1 : ByteArray) (r2 : ByteArray) (r3 : ByteArray) (w : World) (h : impl_GroupResourceParse.f k a0 = some (r1, r2, r3)) :
    Calls Try.prog 16 #[.string a0] w fun e w' => e = .returned (.agg #[.string r1, .string r2, .string r3]) ∧ Below w.heap.size w w' := by
  have hu26 := Try.underlying26
  have hu49 := Try.underlying49
  have HB := Aside0.mk (Below.refl w.heap.size w)
  have H : ((schema_ParseGroupResource.f k a0).bind fun bt113 => (some (bt113.1, (⟨#[]⟩ : ByteArray), bt113.2))) = some (r1, r2, r3) := h
  clear h
  replace H := Option.bind_eq_some_iff.mp H
  obtain ⟨⟨t113, t114⟩, A20, H⟩ := H
  replace H : (some (t113, (⟨#[]⟩ : ByteArray), t114)) = some (r1, r2, r3) := H
  have A2 := Aside0.mk A20
  clear A20
  simp only [Option.some.injEq, Prod.mk.injEq] at H
  obtain ⟨rfl, rfl, rfl⟩ := H
  go_enter Try.func16, Try.ntmps16
  go_wp2_with (first | ((with_reducible refine gate_dst (N := 2) rfl ?_); refine box_event ?hg (N := 2) ?hd (cs := #[.string (⟨#[]⟩ : ByteArray), .string (⟨#[]⟩ : ByteArray), .string (⟨#[]⟩ : ByteArray)]) (t := 26) ?hr ?_; (case hd => rfl); (case hg => rfl); (case hr => first | (go_simp; done) | (go_simp; rfl)); intro gb112 hg w3 hbox hb; have n0_ := Aside0.mk (below_step (by repeat (first | (with_reducible first | exact HB.out | apply below_alloc | apply pw_below_drewN | apply below_drew1) | exact HB.out)) hb); have n1_ := Aside0.mk (hbox); have n2_ := Aside0.mk ((by rw [hg]; exact (below_size (by repeat (first | (with_reducible first | exact HB.out | apply below_alloc | apply pw_below_drewN | apply below_drew1) | exact HB.out))) : w.heap.size ≤ gb112)); have n3_ := Aside0.mk ((by rw [hg]; exact (below_size (by repeat (first | (with_reducible first | exact HB.out | apply below_alloc | apply pw_below_drewN | apply below_drew1) | exact HB.out))) : w.heap.size ≤ gb112)); clear HB; have HB := n0_; have BK112 := n1_; have GW112 := n2_; have GE112 := n3_; clear n0_ n1_ n2_ n3_; clear hb hbox hg) | ((with_reducible refine gate_callee (f := 35) rfl ?_); refine goesL_ (some 5) rfl rfl Try.func35 (by kernel_rfl) rfl #[.string a0] rfl (by (try simp only [List.map_toArray, List.map_cons, List.map_nil]); first | done | rfl | (simp only [List.length_drop, List.length_take]; rfl)) ?_; (with_reducible refine (schema_ParseGroupResource.calls k a0 t113 t114 _ A2.out).mono ?_); rintro e w4 ⟨rfl, hb⟩; refine ⟨_, rfl, ?_⟩; have n0_ := Aside0.mk (blk_below (g := gb112) (o := .cells #[.string (⟨#[]⟩ : ByteArray), .string (⟨#[]⟩ : ByteArray), .string (⟨#[]⟩ : ByteArray)] 26 (0, 0)) (by (with_reducible repeat (first | refine blk_drewN ?_ _ | refine blk_drew ?_ | refine blk_alloc ?_ _)); exact BK112.out) hb); have n1_ := Aside0.mk (below_step (by repeat (first | (with_reducible first | exact HB.out | apply below_alloc | apply pw_below_drewN | apply below_drew1 | refine below_set ?_ GE112.out) | exact HB.out)) hb); clear BK112; clear HB; have BK112 := n0_; have HB := n1_; clear n0_ n1_; (try clear hb); (try clear hb2); (try clear hk); (try clear hi)) | ((with_reducible refine gate_dst (N := 3) rfl ?_); refine box_event ?hg (N := 3) ?hd (cs := #[.string (⟨#[]⟩ : ByteArray), .string (⟨#[]⟩ : ByteArray)]) (t := 49) ?hr ?_; (case hd => rfl); (case hg => rfl); (case hr => first | (go_simp; done) | (go_simp; rfl)); intro gb115 hg w5 hbox hb; have n0_ := Aside0.mk (blk_below (g := gb112) (o := .cells #[.string (⟨#[]⟩ : ByteArray), .string (⟨#[]⟩ : ByteArray), .string (⟨#[]⟩ : ByteArray)] 26 (0, 0)) (by (with_reducible repeat (first | refine blk_drewN ?_ _ | refine blk_drew ?_ | refine blk_alloc ?_ _)); exact BK112.out) hb); have n1_ := Aside0.mk (below_step (by repeat (first | (with_reducible first | exact HB.out | apply below_alloc | apply pw_below_drewN | apply below_drew1 | refine below_set ?_ GE112.out) | exact HB.out)) hb); have n2_ := Aside0.mk (hbox); have n3_ := Aside0.mk ((by rw [hg]; exact (below_size (by repeat (first | (with_reducible first | exact HB.out | apply below_alloc | apply pw_below_drewN | apply below_drew1 | refine below_set ?_ GE112.out) | exact HB.out))) : w.heap.size ≤ gb115)); have n4_ := Aside0.mk ((by rw [hg]; exact (below_size (by repeat (first | (with_reducible first | exact HB.out | apply below_alloc | apply pw_below_drewN | apply below_drew1 | refine below_set ?_ GE112.out) | exact HB.out))) : w.heap.size ≤ gb115)); have n5_ := Aside0.mk ((by rw [hg]; exact Nat.ne_of_lt (blk_lt (g := gb112) (o := .cells #[.string (⟨#[]⟩ : ByteArray), .string (⟨#[]⟩ : ByteArray), .string (⟨#[]⟩ : ByteArray)] 26 (0, 0)) (by (with_reducible repeat (first | refine blk_drewN ?_ _ | refine blk_drew ?_ | refine blk_alloc ?_ _)); exact BK112.out)) : gb112 ≠ gb115)); have n6_ := Aside0.mk ((by rw [hg]; exact Nat.ne_of_gt (blk_lt (g := gb112) (o := .cells #[.string (⟨#[]⟩ : ByteArray), .string (⟨#[]⟩ : ByteArray), .string (⟨#[]⟩ : ByteArray)] 26 (0, 0)) (by (with_reducible repeat (first | refine blk_drewN ?_ _ | refine blk_drew ?_ | refine blk_alloc ?_ _)); exact BK112.out)) : gb115 ≠ gb112)); clear BK112; clear HB; have BK112 := n0_; have HB := n1_; have BK115 := n2_; have GW115 := n3_; have GE115 := n4_; have NB112_115 := n5_; have NB115_112 := n6_; clear n0_ n1_ n2_ n3_ n4_ n5_ n6_; clear hb hbox hg; have hnb6 := NB115_112.out; have hnc6 := NB112_115.out; have hcz7_0 : w5.cell? ⟨gb115, 0, none⟩ = some (.string (⟨#[]⟩ : ByteArray)) := (blk_cell BK115.out 0).trans rfl; have hcz7_1 : w5.cell? ⟨gb115, 1, none⟩ = some (.string (⟨#[]⟩ : ByteArray)) := (blk_cell BK115.out 1).trans rfl; have hfz7_0 := blk_frozen BK115.out 0; have hfz7_1 := blk_frozen BK115.out 1; have hcz8_0 : w5.cell? ⟨gb112, 0, none⟩ = some (.string (⟨#[]⟩ : ByteArray)) := (blk_cell BK112.out 0).trans rfl; have hcz8_1 : w5.cell? ⟨gb112, 1, none⟩ = some (.string (⟨#[]⟩ : ByteArray)) := (blk_cell BK112.out 1).trans rfl; have hcz8_2 : w5.cell? ⟨gb112, 2, none⟩ = some (.string (⟨#[]⟩ : ByteArray)) := (blk_cell BK112.out 2).trans rfl; have hfz8_0 := blk_frozen BK112.out 0; have hfz8_1 := blk_frozen BK112.out 1; have hfz8_2 := blk_frozen BK112.out 2))
  refine bodyPost_ret (results_cell_row rfl _ _ gb112 26 #[.string t113, .string (⟨#[]⟩ : ByteArray), .string t114] (0, 0) _ rfl (by (with_reducible repeat (first | refine blk_drewN ?_ _ | refine blk_drew ?_ | refine blk_alloc ?_ _)); refine blk_put (cs := #[.string t113, .string (⟨#[]⟩ : ByteArray), .string (⟨#[]⟩ : ByteArray)]) ?_ 2 _ rfl; (with_reducible repeat (first | refine blk_drewN ?_ _ | refine blk_drew ?_ | refine blk_alloc ?_ _)); refine blk_put (cs := #[.string t113, .string (⟨#[]⟩ : ByteArray), .string (⟨#[]⟩ : ByteArray)]) ?_ 1 _ rfl; (with_reducible repeat (first | refine blk_drewN ?_ _ | refine blk_drew ?_ | refine blk_alloc ?_ _)); refine blk_put (cs := #[.string (⟨#[]⟩ : ByteArray), .string (⟨#[]⟩ : ByteArray), .string (⟨#[]⟩ : ByteArray)]) ?_ 0 _ rfl; (with_reducible repeat (first | refine blk_drewN ?_ _ | refine blk_drew ?_ | refine blk_alloc ?_ _)); refine blk_far ?_ NB112_115.out _; (with_reducible repeat (first | refine blk_drewN ?_ _ | refine blk_drew ?_ | refine blk_alloc ?_ _)); refine blk_far ?_ NB112_115.out _; (with_reducible repeat (first | refine blk_drewN ?_ _ | refine blk_drew ?_ | refine blk_alloc ?_ _)); exact BK112.out) Try.underlying26 rfl (by kernel_rfl)) rfl ?_
  exact ⟨by first | rfl | (simp [errW_none, errW_some] <;> rfl) | (simp [*, errW_none, errW_some] <;> rfl), by repeat (first | (with_reducible first | exact HB.out | apply below_alloc | apply pw_below_drewN | apply below_drew1 | refine below_set ?_ GE112.out | refine below_set ?_ GE115.out) | exact HB.out)⟩

/-! ### schema_GroupResource_String: function 36 -/
def schema_GroupResource_String.f (a0_0 : ByteArray) (a0_1 : ByteArray) : Option (ByteArray) := if (a0_0.size : Int) = 0 then (some a0_1) else (if a0_1.size + 1 ≤ 9223372036854775807 then (if (a0_1 ++ (⟨#[46]⟩ : ByteArray)).size + a0_0.size ≤ 9223372036854775807 then (some ((a0_1 ++ (⟨#[46]⟩ : ByteArray)) ++ a0_0)) else (none)) else (none))
set_option maxHeartbeats 8000000 in
set_option maxRecDepth 100000 in
theorem schema_GroupResource_String.calls (a0_0 : ByteArray) (a0_1 : ByteArray) (r : ByteArray) (w : World) (h : schema_GroupResource_String.f a0_0 a0_1 = some r) :
    Calls Try.prog 36 #[.agg #[.string a0_0, .string a0_1]] w fun e w' => e = .returned (.string r) ∧ Below w.heap.size w w' := by
  have hu49 := Try.underlying49
  have HB := Aside0.mk (Below.refl w.heap.size w)
  have H : (if (a0_0.size : Int) = 0 then (some a0_1) else (if a0_1.size + 1 ≤ 9223372036854775807 then (if (a0_1 ++ (⟨#[46]⟩ : ByteArray)).size + a0_0.size ≤ 9223372036854775807 then (some ((a0_1 ++ (⟨#[46]⟩ : ByteArray)) ++ a0_0)) else (none)) else (none))) = some r := h
  clear h
  by_cases c2 : (a0_0.size : Int) = 0
  · rw [if_pos c2] at H
    have c2b0 : ((a0_0.size : Int) == 0) = true := beq_iff_eq.mpr c2
    have c2b1 : ((a0_0.size : Int) != 0) = false := bne_eq_false_iff_eq.mpr c2
    clear c2
    obtain rfl := Option.some.inj H
    go_enter Try.func36, Try.ntmps36
    go_wp2_with (first | ((with_reducible refine gate_dst (N := 1) rfl ?_); refine box_event ?hg (N := 1) ?hd (cs := #[.string a0_0, .string a0_1]) (t := 49) ?hr ?_; (case hd => rfl); (case hg => rfl); (case hr => first | (go_simp; done) | (go_simp; rfl)); intro gb116 hg w3 hbox hb; have n0_ := Aside0.mk (below_step (by repeat (first | (with_reducible first | exact HB.out | apply below_alloc | apply pw_below_drewN | apply below_drew1) | exact HB.out)) hb); have n1_ := Aside0.mk (hbox); have n2_ := Aside0.mk ((by rw [hg]; exact (below_size (by repeat (first | (with_reducible first | exact HB.out | apply below_alloc | apply pw_below_drewN | apply below_drew1) | exact HB.out))) : w.heap.size ≤ gb116)); have n3_ := Aside0.mk ((by rw [hg]; exact (below_size (by repeat (first | (with_reducible first | exact HB.out | apply below_alloc | apply pw_below_drewN | apply below_drew1) | exact HB.out))) : w.heap.size ≤ gb116)); clear HB; have HB := n0_; have BK116 := n1_; have GW116 := n2_; have GE116 := n3_; clear n0_ n1_ n2_ n3_; clear hb hbox hg; have hcz4_0 : w3.cell? ⟨gb116, 0, none⟩ = some (.string a0_0) := (blk_cell BK116.out 0).trans rfl; have hcz4_1 : w3.cell? ⟨gb116, 1, none⟩ = some (.string a0_1) := (blk_cell BK116.out 1).trans rfl; have hfz4_0 := blk_frozen BK116.out 0; have hfz4_1 := blk_frozen BK116.out 1))
    go_ret
    exact ⟨by first | rfl | (simp [errW_none, errW_some] <;> rfl) | (simp [*, errW_none, errW_some] <;> rfl), by repeat (first | (with_reducible first | exact HB.out | apply below_alloc | apply pw_below_drewN | apply below_drew1 | refine below_set ?_ GE116.out) | exact HB.out)⟩
  · rw [if_neg c2] at H
    have c2b0 : ((a0_0.size : Int) == 0) = false := beq_eq_false_iff_ne.mpr c2
    have c2b1 : ((a0_0.size : Int) != 0) = true := bne_iff_ne.mpr c2
    by_cases c5 : a0_1.size + 1 ≤ 9223372036854775807
    · rw [if_pos c5] at H
      have c5b0 := eq_true c5
      have c5b1 : decide (a0_1.size + 1 ≤ 9223372036854775807) = true := decide_eq_true c5
      try have c5b2 : (9223372036854775807 < a0_1.size + 1) = False := eq_false (Nat.not_lt.2 c5)
      by_cases c6 : (a0_1 ++ (⟨#[46]⟩ : ByteArray)).size + a0_0.size ≤ 9223372036854775807
      · rw [if_pos c6] at H
        have c6b0 := eq_true c6
        have c6b1 : decide ((a0_1 ++ (⟨#[46]⟩ : ByteArray)).size + a0_0.size ≤ 9223372036854775807) = true := decide_eq_true c6
        try have c6b2 : (9223372036854775807 < (a0_1 ++ (⟨#[46]⟩ : ByteArray)).size + a0_0.size) = False := eq_false (Nat.not_lt.2 c6)
        obtain rfl := Option.some.inj H
        go_enter Try.func36, Try.ntmps36
        go_wp2_with (first | ((with_reducible refine gate_dst (N := 1) rfl ?_); refine box_event ?hg (N := 1) ?hd (cs := #[.string a0_0, .string a0_1]) (t := 49) ?hr ?_; (case hd => rfl); (case hg => rfl); (case hr => first | (go_simp; done) | (go_simp; rfl)); intro gb116 hg w7 hbox hb; have n0_ := Aside0.mk (below_step (by repeat (first | (with_reducible first | exact HB.out | apply below_alloc | apply pw_below_drewN | apply below_drew1) | exact HB.out)) hb); have n1_ := Aside0.mk (hbox); have n2_ := Aside0.mk ((by rw [hg]; exact (below_size (by repeat (first | (with_reducible first | exact HB.out | apply below_alloc | apply pw_below_drewN | apply below_drew1) | exact HB.out))) : w.heap.size ≤ gb116)); have n3_ := Aside0.mk ((by rw [hg]; exact (below_size (by repeat (first | (with_reducible first | exact HB.out | apply below_alloc | apply pw_below_drewN | apply below_drew1) | exact HB.out))) : w.heap.size ≤ gb116)); clear HB; have HB := n0_; have BK116 := n1_; have GW116 := n2_; have GE116 := n3_; clear n0_ n1_ n2_ n3_; clear hb hbox hg; have hcz8_0 : w7.cell? ⟨gb116, 0, none⟩ = some (.string a0_0) := (blk_cell BK116.out 0).trans rfl; have hcz8_1 : w7.cell? ⟨gb116, 1, none⟩ = some (.string a0_1) := (blk_cell BK116.out 1).trans rfl; have hfz8_0 := blk_frozen BK116.out 0; have hfz8_1 := blk_frozen BK116.out 1))
        go_ret
        exact ⟨by first | rfl | (simp [errW_none, errW_some] <;> rfl) | (simp [*, errW_none, errW_some] <;> rfl), by repeat (first | (with_reducible first | exact HB.out | apply below_alloc | apply pw_below_drewN | apply below_drew1 | refine below_set ?_ GE116.out) | exact HB.out)⟩
      · rw [if_neg c6] at H
        exact absurd H (by simp)
    · rw [if_neg c5] at H
      exact absurd H (by simp)

/-! ### impl_GroupResourceText: function 17 -/
def impl_GroupResourceText.f (a0 : ByteArray) (a1 : ByteArray) : Option (ByteArray) := (schema_GroupResource_String.f a0 a1).bind fun t117 => (some t117)
set_option maxHeartbeats 8000000 in
set_option maxRecDepth 100000 in
theorem impl_GroupResourceText.calls (a0 : ByteArray) (a1 : ByteArray) (r : ByteArray) (w : World) (h : impl_GroupResourceText.f a0 a1 = some r) :
    Calls Try.prog 17 #[.string a0, .string a1] w fun e w' => e = .returned (.string r) ∧ Below w.heap.size w w' := by
  have hu49 := Try.underlying49
  have HB := Aside0.mk (Below.refl w.heap.size w)
  have H : ((schema_GroupResource_String.f a0 a1).bind fun t117 => (some t117)) = some r := h
  clear h
  replace H := Option.bind_eq_some_iff.mp H
  obtain ⟨t117, A30, H⟩ := H
  replace H : (some t117) = some r := H
  have A3 := Aside0.mk A30
  clear A30
  obtain rfl := Option.some.inj H
  go_enter Try.func17, Try.ntmps17
  go_wp2_with (first | ((with_reducible refine gate_callee (f := 36) rfl ?_); refine goesL_ (some 8) rfl rfl Try.func36 (by kernel_rfl) rfl #[.agg #[.string a0, .string a1]] rfl (by (try simp only [List.map_toArray, List.map_cons, List.map_nil]); first | done | rfl | (simp only [List.length_drop, List.length_take]; rfl)) ?_; (with_reducible refine (schema_GroupResource_String.calls a0 a1 t117 _ A3.out).mono ?_); rintro e w4 ⟨rfl, hb⟩; refine ⟨_, rfl, ?_⟩; have n0_ := Aside0.mk (below_step (by repeat (first | (with_reducible first | exact HB.out | apply below_alloc | apply pw_below_drewN | apply below_drew1) | exact HB.out)) hb); clear HB; have HB := n0_; clear n0_; (try clear hb); (try clear hb2); (try clear hk); (try clear hi)))
  go_ret
  exact ⟨by first | rfl | (simp [errW_none, errW_some] <;> rfl) | (simp [*, errW_none, errW_some] <;> rfl), by repeat (first | (with_reducible first | exact HB.out | apply below_alloc | apply pw_below_drewN | apply below_drew1) | exact HB.out)⟩

end Go.Proofs.Ytehgokciafpnbaa.PFnNamedBack
