/- A text of this session: the functions of the law FnKubeMade, by a program that calls the kit's print and lays this session's own contracts of single functions beside. -/
import Derived.Test.YtmkpkpkcoieeiaaDoorXFnKubeMadex0
namespace Go.Proofs.YtmkpkpkcoieeiaaDoor.XFnKubeMade
open Go.RowKit Go.Proofs.YtmkpkpkcoieeiaaDoorW.PrintWords Go.Proofs.YtmkpkpkcoieeiaaDoorW.PrintLast Go.Proofs.YtmkpkpkcoieeiaaDoorW.PrintMore
attribute [local go_sem] max2_int min2_int max_two min_two max_three min_three max_four min_four   -- for this text's walks alone
set_option linter.unusedVariables false
set_option linter.unusedSimpArgs false

/-! ### spec_verSign: function 20 -/
def spec_verSign.f (a0 : Int) : Option (Int) := if a0 < 0 then (some (-1)) else (if a0 > 0 then (some 1) else (some 0))
set_option maxHeartbeats 8000000 in
set_option maxRecDepth 100000 in
theorem spec_verSign.calls (a0 : Int) (r : Int) (w : World) (h : spec_verSign.f a0 = some r) :
    Calls Tryd.prog 20 #[.int .i64 a0] w fun e w' => e = .returned (.int .i64 r) ∧ Drawn0 w w' := by
  have H : (if a0 < 0 then (some (-1)) else (if a0 > 0 then (some 1) else (some 0))) = some r := h
  clear h
  by_cases c2 : a0 < 0
  · rw [if_pos c2] at H
    have c2b0 : decide (a0 < 0) = true := decide_eq_true c2
    clear c2
    obtain rfl := Option.some.inj H
    go_enter Tryd.func20, Tryd.ntmps20
    go_wp2
    go_ret
    exact ⟨by first | rfl | (simp; done) | (simp [*]; done), by repeat (first | exact Drawn0.refl _ | apply Drawn0.step)⟩
  · rw [if_neg c2] at H
    have c2b0 : decide (a0 < 0) = false := decide_eq_false c2
    clear c2
    by_cases c3 : a0 > 0
    · rw [if_pos c3] at H
      have c3b0 : decide (0 < a0) = true := decide_eq_true c3
      clear c3
      obtain rfl := Option.some.inj H
      go_enter Tryd.func20, Tryd.ntmps20
      go_wp2
      go_ret
      exact ⟨by first | rfl | (simp; done) | (simp [*]; done), by repeat (first | exact Drawn0.refl _ | apply Drawn0.step)⟩
    · rw [if_neg c3] at H
      have c3b0 : decide (0 < a0) = false := decide_eq_false c3
      clear c3
      obtain rfl := Option.some.inj H
      go_enter Tryd.func20, Tryd.ntmps20
      go_wp2
      go_ret
      exact ⟨by first | rfl | (simp; done) | (simp [*]; done), by repeat (first | exact Drawn0.refl _ | apply Drawn0.step)⟩

/-! ### spec_Sign: function 14 -/
def spec_Sign.f (a0 : Int) : Option (Int) := (spec_verSign.f a0).bind fun t101 => (some t101)
set_option maxHeartbeats 8000000 in
set_option maxRecDepth 100000 in
theorem spec_Sign.calls (a0 : Int) (r : Int) (w : World) (h : spec_Sign.f a0 = some r) :
    Calls Tryd.prog 14 #[.int .i64 a0] w fun e w' => e = .returned (.int .i64 r) ∧ Drawn0 w w' := by
  have H : ((spec_verSign.f a0).bind fun t101 => (some t101)) = some r := h
  clear h
  replace H := Option.bind_eq_some_iff.mp H
  obtain ⟨t101, A20, H⟩ := H
  replace H : (some t101) = some r := H
  have A2 := Aside0.mk A20
  clear A20
  obtain rfl := Option.some.inj H
  go_enter Tryd.func14, Tryd.ntmps14
  go_wp2_with (first | ((with_reducible refine gate_callee (f := 20) rfl ?_); refine goesL_ (some 4) rfl rfl Tryd.func20 (by kernel_rfl) rfl #[.int .i64 a0] rfl (by (try simp only [List.map_toArray, List.map_cons, List.map_nil]); first | done | rfl | (simp only [List.length_drop, List.length_take]; rfl)) ?_; (with_reducible refine (spec_verSign.calls a0 t101 _ A2.out).mono ?_); rintro e w' ⟨rfl, ⟨nd, rfl⟩⟩; refine ⟨_, rfl, ?_⟩))
  go_ret
  exact ⟨by first | rfl | (simp; done) | (simp [*]; done), by repeat (first | exact Drawn0.refl _ | apply Drawn0.step)⟩

-- NOT PRINTED: function 48 (stringslite_Clone)

-- NOT PRINTED: function 40 (strconv_syntaxError)

-- NOT PRINTED: function 41 (strconv_rangeError)

-- NOT PRINTED: function 49 (errors_New)

-- NOT PRINTED: function 53 (strconv_small)

-- NOT PRINTED: function 57 (strconv_log10Pow2)

-- NOT PRINTED: function 58 (bits_Len64)

-- NOT PRINTED: function 59 (strconv_bool2_int)

-- NOT PRINTED: function 54 (strconv_numDigits)

-- NOT PRINTED: function 55 (strconv_formatBase10)

-- NOT PRINTED: function 60 (strconv_isPowerOfTwo)

-- NOT PRINTED: function 62 (bits_TrailingZeros32)

-- NOT PRINTED: function 63 (bits_TrailingZeros64)

-- NOT PRINTED: function 61 (bits_TrailingZeros)

-- NOT PRINTED: function 56 (strconv_formatBits)

-- NOT PRINTED: function 52 (strconv_FormatInt)

-- NOT PRINTED: function 51 (strconv_Itoa_51)

-- NOT PRINTED: function 50 (strconv_Itoa_50)

-- NOT PRINTED: function 42 (strconv_baseError)

-- NOT PRINTED: function 43 (strconv_bitSizeError)

-- NOT PRINTED: function 34 (strconv_toError)

-- NOT PRINTED: function 46 (strconv_lower)

-- NOT PRINTED: function 47 (strconv_underscoreOK)

-- NOT PRINTED: function 39 (strconv_ParseUint)

-- NOT PRINTED: function 33 (strconv_ParseInt)

-- NOT PRINTED: function 35 (strconv_Atoi_35)

-- NOT PRINTED: function 27 (strconv_Atoi_27)

/-! ### version_zzDigits: function 44 -/
def version_zzDigits.l0 : Nat → ByteArray → Int → Option (Int)
  | 0, _, _ => none
  | k + 1, x0, x1 => if x1 < (x0.size : Int) then (if 0 ≤ x1 then (if 48 ≤ (bt x0 x1) then (if (bt x0 x1) ≤ 57 then (version_zzDigits.l0 k x0 (wrap64 (x1 + 1))) else (some x1)) else (some x1)) else (none)) else (some x1)
def version_zzDigits.f (k : Nat) (a0 : ByteArray) (a1 : Int) : Option (Int) := version_zzDigits.l0 k a0 a1
theorem version_zzDigits.mono_l : ∀ k, (∀ y0 y1, LeO (version_zzDigits.l0 k y0 y1) (version_zzDigits.l0 (k + 1) y0 y1))
  | 0 => fun _ _ r h => by simp [version_zzDigits.l0] at h
  | k + 1 => by
    have ih0 := version_zzDigits.mono_l k
    · intro y0 y1
      unfold version_zzDigits.l0
      repeat' first
      | (with_reducible exact ih0 _ _)
      | (with_reducible exact LeO.refl _)
      | (with_reducible exact LeO.none _)
      | (with_reducible refine LeO.ite ?_ ?_)
      | (with_reducible refine LeO.bind ?_ (fun _ => ?_))
      | exact ih0 _ _
      | exact LeO.none _
      | refine LeO.ite ?_ ?_
      | refine LeO.bind ?_ (fun _ => ?_)
theorem version_zzDigits.mono : ∀ a0 a1 k, LeO (version_zzDigits.f k a0 a1) (version_zzDigits.f (k + 1) a0 a1) := by
  intro a0 a1 k
  have ih0 := version_zzDigits.mono_l k
  unfold version_zzDigits.f
  repeat' first
      | (with_reducible exact ih0 _ _)
      | (with_reducible exact LeO.refl _)
      | (with_reducible exact LeO.none _)
      | (with_reducible refine LeO.ite ?_ ?_)
      | (with_reducible refine LeO.bind ?_ (fun _ => ?_))
      | exact ih0 _ _
      | exact LeO.none _
      | refine LeO.ite ?_ ?_
      | refine LeO.bind ?_ (fun _ => ?_)
set_option maxHeartbeats 8000000 in
set_option maxRecDepth 100000 in
theorem version_zzDigits.calls (k : Nat) (a0 : ByteArray) (a1 : Int) (r : Int) (w : World) (h : version_zzDigits.f k a0 a1 = some r) :
    Calls Tryd.prog 44 #[.string a0, .int .i64 a1] w fun e w' => e = .returned (.int .i64 r) ∧ Drawn0 w w' := by
  have H : (version_zzDigits.l0 k a0 a1) = some r := h
  clear h
  have H' := Aside0.mk H
  clear H
  go_enter Tryd.func44, Tryd.ntmps44
  go_wp2
  go_loopg [1] k (fun kq v1 w' => ∃ (x1_1 : Int), v1 = .int .i64 x1_1 ∧ Aside0 (version_zzDigits.l0 kq a0 x1_1 = some r) ∧ Aside0 (kq ≤ k) ∧ Drawn0 w w')
  case atStart => exact ⟨(a1), (by first | rfl | (simp; done) | (simp [*]; done)), H', ⟨Nat.le_refl _⟩, by repeat (first | exact Drawn0.refl _ | apply Drawn0.step)⟩
  case round =>
    clear H'
    try clear p2
    obtain ⟨x1_1, rfl, HA, HK1, ⟨m1, rfl⟩⟩ := hrel
    cases gk with
    | zero => exact absurd HA.out (by simp [version_zzDigits.l0])
    | succ k1 =>
      have H := HA.out
      clear HA
      simp only [version_zzDigits.l0] at H
      by_cases c3 : x1_1 < (a0.size : Int)
      · rw [if_pos c3] at H
        have c3b0 : decide (x1_1 < (a0.size : Int)) = true := decide_eq_true c3
        clear c3
        by_cases c4 : 0 ≤ x1_1
        · rw [if_pos c4] at H
          have c4b0 : decide (0 ≤ x1_1) = true := decide_eq_true c4
          clear c4
          by_cases c6 : 48 ≤ (bt a0 x1_1)
          · rw [if_pos c6] at H
            have c6b0 : decide (48 ≤ (bt a0 x1_1)) = true := decide_eq_true c6
            clear c6
            by_cases c8 : (bt a0 x1_1) ≤ 57
            · rw [if_pos c8] at H
              have c8b0 : decide ((bt a0 x1_1) ≤ 57) = true := decide_eq_true c8
              clear c8
              have H' := Aside0.mk H
              clear H
              have p5 : 0 ≤ (x1_1 : Int) := of_decide_eq_true (by first | (with_reducible assumption) | assumption)
              have q5 : x1_1 < (a0.size : Int) := of_decide_eq_true (by first | (with_reducible assumption) | assumption)
              have hx5 := bt_at a0 x1_1
              replace p5 := eq_true p5
              replace q5 := eq_true q5
              have p7 : 0 ≤ (x1_1 : Int) := of_decide_eq_true (by first | (with_reducible assumption) | assumption)
              have q7 : x1_1 < (a0.size : Int) := of_decide_eq_true (by first | (with_reducible assumption) | assumption)
              have hx7 := bt_at a0 x1_1
              replace p7 := eq_true p7
              replace q7 := eq_true q7
              go_wp2
              go_roundg k1
              case measure => have := HK1.out; omega
              case rel => exact ⟨(wrap64 (x1_1 + 1)), (by first | rfl | (simp; done) | (simp [*]; done)), H', ⟨by have := HK1.out; omega⟩, by repeat (first | exact Drawn0.refl _ | apply Drawn0.step)⟩
            · rw [if_neg c8] at H
              have c8b0 : decide ((bt a0 x1_1) ≤ 57) = false := decide_eq_false c8
              clear c8
              obtain rfl := Option.some.inj H
              have p5 : 0 ≤ (x1_1 : Int) := of_decide_eq_true (by first | (with_reducible assumption) | assumption)
              have q5 : x1_1 < (a0.size : Int) := of_decide_eq_true (by first | (with_reducible assumption) | assumption)
              have hx5 := bt_at a0 x1_1
              replace p5 := eq_true p5
              replace q5 := eq_true q5
              have p7 : 0 ≤ (x1_1 : Int) := of_decide_eq_true (by first | (with_reducible assumption) | assumption)
              have q7 : x1_1 < (a0.size : Int) := of_decide_eq_true (by first | (with_reducible assumption) | assumption)
              have hx7 := bt_at a0 x1_1
              replace p7 := eq_true p7
              replace q7 := eq_true q7
              go_wp2
              go_ret
              exact ⟨by first | rfl | (simp; done) | (simp [*]; done), by repeat (first | exact Drawn0.refl _ | apply Drawn0.step)⟩
          · rw [if_neg c6] at H
            have c6b0 : decide (48 ≤ (bt a0 x1_1)) = false := decide_eq_false c6
            clear c6
            obtain rfl := Option.some.inj H
            have p5 : 0 ≤ (x1_1 : Int) := of_decide_eq_true (by first | (with_reducible assumption) | assumption)
            have q5 : x1_1 < (a0.size : Int) := of_decide_eq_true (by first | (with_reducible assumption) | assumption)
            have hx5 := bt_at a0 x1_1
            replace p5 := eq_true p5
            replace q5 := eq_true q5
            go_wp2
            go_ret
            exact ⟨by first | rfl | (simp; done) | (simp [*]; done), by repeat (first | exact Drawn0.refl _ | apply Drawn0.step)⟩
        · rw [if_neg c4] at H
          exact absurd H (by simp)
      · rw [if_neg c3] at H
        have c3b0 : decide (x1_1 < (a0.size : Int)) = false := decide_eq_false c3
        clear c3
        obtain rfl := Option.some.inj H
        go_wp2
        go_ret
        exact ⟨by first | rfl | (simp; done) | (simp [*]; done), by repeat (first | exact Drawn0.refl _ | apply Drawn0.step)⟩

end Go.Proofs.YtmkpkpkcoieeiaaDoor.XFnKubeMade
