/- A text of this session: the functions of the law FnIntStrValue, by a program that calls the kit's print and lays this session's own contracts of single functions beside. -/
import Derived.Test.YtmkpkpkcoieeiaaDoorXFnIntStrValuex0
import Derived.Test.YtmkpkpkcoieeiaaDoorXFnIntStrValuex1
namespace Go.Proofs.YtmkpkpkcoieeiaaDoor.XFnIntStrValue
open Go.RowKit Go.Proofs.YtmkpkpkcoieeiaaDoorW.PrintWords Go.Proofs.YtmkpkpkcoieeiaaDoorW.PrintLast Go.Proofs.YtmkpkpkcoieeiaaDoorW.PrintMore
attribute [local go_sem] max2_int min2_int max_two min_two max_three min_three max_four min_four   -- for this text's walks alone
set_option linter.unusedVariables false
set_option linter.unusedSimpArgs false

/-! ### laws_intBeyond: function 11 -/
mutual
def laws_intBeyond.j0 : Nat → ByteArray → Int → Bool → Option (Bool)
  | 0, _, _, _ => none
  | k + 1, x0, x3, x17 => if x17 = true then (laws_intBeyond.j1 k x0 1) else (laws_intBeyond.j1 k x0 x3)
def laws_intBeyond.j1 : Nat → ByteArray → Int → Option (Bool)
  | 0, _, _ => none
  | k + 1, x0, x3 => laws_intBeyond.l0 k x0 x3
def laws_intBeyond.l0 : Nat → ByteArray → Int → Option (Bool)
  | 0, _, _ => none
  | k + 1, x0, x3 => if x3 < (x0.size : Int) then (if 0 ≤ x3 then (if (bt x0 x3) ≥ 48 then (if (bt x0 x3) ≤ 57 then (laws_intBeyond.l0 k x0 (wrap64 (x3 + 1))) else (if x3 ≤ (x0.size : Int) then ((spec_NumWhole.f k (x0.extract 0 (x3 : Int).toNat) (-9223372036854775808) 9223372036854775807).bind fun bt104 => (if x3 > 18 then (some (!bt104.2)) else (some false))) else (none))) else (if x3 ≤ (x0.size : Int) then ((spec_NumWhole.f k (x0.extract 0 (x3 : Int).toNat) (-9223372036854775808) 9223372036854775807).bind fun bt106 => (if x3 > 18 then (some (!bt106.2)) else (some false))) else (none))) else (none)) else (if 0 ≤ x3 then (if x3 ≤ (x0.size : Int) then ((spec_NumWhole.f k (x0.extract 0 (x3 : Int).toNat) (-9223372036854775808) 9223372036854775807).bind fun bt108 => (if x3 > 18 then (some (!bt108.2)) else (some false))) else (none)) else (none))
end
def laws_intBeyond.f (k : Nat) (a0 : ByteArray) : Option (Bool) := if a0.toList = ([] : List UInt8) then (laws_intBeyond.j0 k a0 0 false) else (if 0 < (a0.size : Int) then (if (bt a0 0) = 45 then (laws_intBeyond.j0 k a0 0 true) else (laws_intBeyond.j0 k a0 0 ((bt a0 0) == 43))) else (none))
theorem laws_intBeyond.mono_l : ∀ k, (∀ y0 y1 y2, LeO (laws_intBeyond.j0 k y0 y1 y2) (laws_intBeyond.j0 (k + 1) y0 y1 y2)) ∧ (∀ y0 y1, LeO (laws_intBeyond.j1 k y0 y1) (laws_intBeyond.j1 (k + 1) y0 y1)) ∧ (∀ y0 y1, LeO (laws_intBeyond.l0 k y0 y1) (laws_intBeyond.l0 (k + 1) y0 y1))
  | 0 => ⟨fun _ _ _ r h => by simp [laws_intBeyond.j0] at h, fun _ _ r h => by simp [laws_intBeyond.j1] at h, fun _ _ r h => by simp [laws_intBeyond.l0] at h⟩
  | k + 1 => by
    obtain ⟨ih0, ih1, ih2⟩ := laws_intBeyond.mono_l k
    refine ⟨?_, ?_, ?_⟩
    · intro y0 y1 y2
      unfold laws_intBeyond.j0
      repeat' first
      | (with_reducible exact ih0 _ _ _)
      | (with_reducible exact ih1 _ _)
      | (with_reducible exact ih2 _ _)
      | (with_reducible exact spec_NumWhole.mono _ _ _ _)
      | (with_reducible exact LeO.refl _)
      | (with_reducible exact LeO.none _)
      | (with_reducible refine LeO.ite ?_ ?_)
      | (with_reducible refine LeO.bind ?_ (fun _ => ?_))
      | exact ih0 _ _ _
      | exact ih1 _ _
      | exact ih2 _ _
      | exact spec_NumWhole.mono _ _ _ _
      | exact LeO.none _
      | refine LeO.ite ?_ ?_
      | refine LeO.bind ?_ (fun _ => ?_)
    · intro y0 y1
      unfold laws_intBeyond.j1
      repeat' first
      | (with_reducible exact ih0 _ _ _)
      | (with_reducible exact ih1 _ _)
      | (with_reducible exact ih2 _ _)
      | (with_reducible exact spec_NumWhole.mono _ _ _ _)
      | (with_reducible exact LeO.refl _)
      | (with_reducible exact LeO.none _)
      | (with_reducible refine LeO.ite ?_ ?_)
      | (with_reducible refine LeO.bind ?_ (fun _ => ?_))
      | exact ih0 _ _ _
      | exact ih1 _ _
      | exact ih2 _ _
      | exact spec_NumWhole.mono _ _ _ _
      | exact LeO.none _
      | refine LeO.ite ?_ ?_
      | refine LeO.bind ?_ (fun _ => ?_)
    · intro y0 y1
      unfold laws_intBeyond.l0
      repeat' first
      | (with_reducible exact ih0 _ _ _)
      | (with_reducible exact ih1 _ _)
      | (with_reducible exact ih2 _ _)
      | (with_reducible exact spec_NumWhole.mono _ _ _ _)
      | (with_reducible exact LeO.refl _)
      | (with_reducible exact LeO.none _)
      | (with_reducible refine LeO.ite ?_ ?_)
      | (with_reducible refine LeO.bind ?_ (fun _ => ?_))
      | exact ih0 _ _ _
      | exact ih1 _ _
      | exact ih2 _ _
      | exact spec_NumWhole.mono _ _ _ _
      | exact LeO.none _
      | refine LeO.ite ?_ ?_
      | refine LeO.bind ?_ (fun _ => ?_)
theorem laws_intBeyond.mono : ∀ a0 k, LeO (laws_intBeyond.f k a0) (laws_intBeyond.f (k + 1) a0) := by
  intro a0 k
  obtain ⟨ih0, ih1, ih2⟩ := laws_intBeyond.mono_l k
  unfold laws_intBeyond.f
  repeat' first
      | (with_reducible exact ih0 _ _ _)
      | (with_reducible exact ih1 _ _)
      | (with_reducible exact ih2 _ _)
      | (with_reducible exact spec_NumWhole.mono _ _ _ _)
      | (with_reducible exact LeO.refl _)
      | (with_reducible exact LeO.none _)
      | (with_reducible refine LeO.ite ?_ ?_)
      | (with_reducible refine LeO.bind ?_ (fun _ => ?_))
      | exact ih0 _ _ _
      | exact ih1 _ _
      | exact ih2 _ _
      | exact spec_NumWhole.mono _ _ _ _
      | exact LeO.none _
      | refine LeO.ite ?_ ?_
      | refine LeO.bind ?_ (fun _ => ?_)
set_option maxHeartbeats 8000000 in
set_option maxRecDepth 100000 in
theorem laws_intBeyond.calls (k : Nat) (a0 : ByteArray) (r : Bool) (w : World) (h : laws_intBeyond.f k a0 = some r) :
    Calls Tryd.prog 11 #[.string a0] w fun e w' => e = .returned (.bool r) ∧ Drawn0 w w' := by
  have H : (if a0.toList = ([] : List UInt8) then (laws_intBeyond.j0 k a0 0 false) else (if 0 < (a0.size : Int) then (if (bt a0 0) = 45 then (laws_intBeyond.j0 k a0 0 true) else (laws_intBeyond.j0 k a0 0 ((bt a0 0) == 43))) else (none))) = some r := h
  clear h
  have HC2 := Aside0.mk H
  clear H
  go_enter Tryd.func11, Tryd.ntmps11
  go_upto_region 2 with (fail)
  go_cut [17] (fun v17 wc => ∃ (kq : Nat) (x17_1 : Bool), v17 = .bool x17_1 ∧ Aside0 (laws_intBeyond.j0 kq a0 0 x17_1 = some r) ∧ Aside0 (kq ≤ k) ∧ Drawn0 w wc)
  case first =>
    have H := HC2.out
    clear HC2
    by_cases c3 : a0.toList = ([] : List UInt8)
    · rw [if_pos c3] at H
      have c3b0 : (a0.toList == ([] : List UInt8)) = true := beq_iff_eq.mpr c3
      have c3b1 : (a0.toList != ([] : List UInt8)) = false := bne_eq_false_iff_eq.mpr c3
      clear c3
      (first | rw [c3b0] | (simp only [i64_w, i32_w]; rw [c3b0]) | skip)
      have H' := Aside0.mk H
      clear H
      go_wp2
      go_meet
      case rel => exact ⟨_, (false), (by first | rfl | (simp; done) | (simp [*]; done)), H', ⟨by first | omega | exact Nat.le_refl _⟩, by repeat (first | exact Drawn0.refl _ | apply Drawn0.step)⟩
    · rw [if_neg c3] at H
      have c3b0 : (a0.toList == ([] : List UInt8)) = false := beq_eq_false_iff_ne.mpr c3
      have c3b1 : (a0.toList != ([] : List UInt8)) = true := bne_iff_ne.mpr c3
      (first | rw [c3b0] | (simp only [i64_w, i32_w]; rw [c3b0]) | skip)
      by_cases c4 : 0 < (a0.size : Int)
      · rw [if_pos c4] at H
        have c4b0 : decide (0 < (a0.size : Int)) = true := decide_eq_true c4
        have c4b1 : decide (0 < a0.size) = true := decide_eq_true (by omega)
        clear c4
        by_cases c6 : (bt a0 0) = 45
        · rw [if_pos c6] at H
          have c6b0 : ((bt a0 0) == 45) = true := beq_iff_eq.mpr c6
          have c6b1 : ((bt a0 0) != 45) = false := bne_eq_false_iff_eq.mpr c6
          clear c6
          have H' := Aside0.mk H
          clear H
          have p5 : 0 ≤ (0 : Int) := (by omega)
          have q5 : 0 < a0.size := (by have : (0 : Int) < (a0.size : Int) := of_decide_eq_true (by first | (with_reducible assumption) | assumption); omega)
          have hx5 : ∀ h : 0 < a0.size, ((a0[0]'h).toNat : Int) = bt a0 0 := bt_at a0 0
          clear p5
          have qi5 : (0 < (a0.size : Int)) = True := eq_true (of_decide_eq_true (by first | (with_reducible assumption) | assumption))
          replace q5 := eq_true q5
          go_wp2
          go_meet
          case rel => exact ⟨_, (true), (by first | rfl | (simp; done) | (simp [*]; done)), H', ⟨by first | omega | exact Nat.le_refl _⟩, by repeat (first | exact Drawn0.refl _ | apply Drawn0.step)⟩
        · rw [if_neg c6] at H
          have c6b0 : ((bt a0 0) == 45) = false := beq_eq_false_iff_ne.mpr c6
          have c6b1 : ((bt a0 0) != 45) = true := bne_iff_ne.mpr c6
          have H' := Aside0.mk H
          clear H
          have p5 : 0 ≤ (0 : Int) := (by omega)
          have q5 : 0 < a0.size := (by have : (0 : Int) < (a0.size : Int) := of_decide_eq_true (by first | (with_reducible assumption) | assumption); omega)
          have hx5 : ∀ h : 0 < a0.size, ((a0[0]'h).toNat : Int) = bt a0 0 := bt_at a0 0
          clear p5
          have qi5 : (0 < (a0.size : Int)) = True := eq_true (of_decide_eq_true (by first | (with_reducible assumption) | assumption))
          replace q5 := eq_true q5
          have p7 : 0 ≤ (0 : Int) := (by omega)
          have q7 : 0 < a0.size := (by have : (0 : Int) < (a0.size : Int) := of_decide_eq_true (by first | (with_reducible assumption) | assumption); omega)
          have hx7 : ∀ h : 0 < a0.size, ((a0[0]'h).toNat : Int) = bt a0 0 := bt_at a0 0
          clear p7
          have qi7 : (0 < (a0.size : Int)) = True := eq_true (of_decide_eq_true (by first | (with_reducible assumption) | assumption))
          replace q7 := eq_true q7
          go_wp2
          go_meet
          case rel => exact ⟨_, (((bt a0 0) == 43)), (by first | rfl | (simp; done) | (simp [*]; done)), H', ⟨by first | omega | exact Nat.le_refl _⟩, by repeat (first | exact Drawn0.refl _ | apply Drawn0.step)⟩
      · rw [if_neg c4] at H
        exact absurd H (by simp)
  case rest =>
    clear HC2
    try clear c1
    try clear p2
    try clear c3
    try clear c3b0
    try clear c3b1
    try clear c4
    try clear c4b0
    try clear c4b1
    try clear p5
    try clear q5
    try clear hx5
    try clear qi5
    try clear c6
    try clear c6b0
    try clear c6b1
    try clear p7
    try clear q7
    try clear hx7
    try clear qi7
    try clear p5
    try clear p7
    try clear q5
    try clear q7
    obtain ⟨kq, x17_1, rfl, HA, HJ1, ⟨mc1, rfl⟩⟩ := hcut
    cases kq with
    | zero => exact absurd HA.out (by simp [laws_intBeyond.j0])
    | succ kj1 =>
      have H := HA.out
      clear HA
      simp only [laws_intBeyond.j0] at H
      have HC8 := Aside0.mk H
      clear H
      go_upto_if 17 with (fail)
      go_cut [3] (fun v3 wc => ∃ (kq : Nat) (x3_7 : Int), v3 = .int .i64 x3_7 ∧ Aside0 (laws_intBeyond.j1 kq a0 x3_7 = some r) ∧ Aside0 (kq ≤ kj1) ∧ Drawn0 w wc)
      case first =>
        have H := HC8.out
        clear HC8
        by_cases c9 : x17_1 = true
        · subst c9
          have H1 : (laws_intBeyond.j1 kj1 a0 1) = some r := by rw [if_pos rfl] at H; exact H
          clear H
          have H := H1
          clear H1
          have H' := Aside0.mk H
          clear H
          go_wp2
          go_meet
          case rel => exact ⟨_, (1), (by first | rfl | (simp; done) | (simp [*]; done)), H', ⟨by have := HJ1.out; first | omega | exact Nat.le_refl _⟩, by repeat (first | exact Drawn0.refl _ | apply Drawn0.step)⟩
        · replace c9 := Bool.eq_false_iff.mpr c9
          subst c9
          have H1 : (laws_intBeyond.j1 kj1 a0 0) = some r := by rw [if_neg (show ¬ (false = true) by decide)] at H; exact H
          clear H
          have H := H1
          clear H1
          have H' := Aside0.mk H
          clear H
          go_wp2
          go_meet
          case rel => exact ⟨_, (0), (by first | rfl | (simp; done) | (simp [*]; done)), H', ⟨by have := HJ1.out; first | omega | exact Nat.le_refl _⟩, by repeat (first | exact Drawn0.refl _ | apply Drawn0.step)⟩
      case rest =>
        clear HC8
        try clear c1
        try clear p2
        try clear c3
        try clear c3b0
        try clear c3b1
        try clear c4
        try clear c4b0
        try clear c4b1
        try clear p5
        try clear q5
        try clear hx5
        try clear qi5
        try clear c6
        try clear c6b0
        try clear c6b1
        try clear p7
        try clear q7
        try clear hx7
        try clear qi7
        try clear c9
        try clear p2
        try clear p5
        try clear p7
        try clear q5
        try clear q7
        obtain ⟨kq, x3_7, rfl, HA, HJ7, ⟨mc7, rfl⟩⟩ := hcut
        cases kq with
        | zero => exact absurd HA.out (by simp [laws_intBeyond.j1])
        | succ kj7 =>
          have H := HA.out
          clear HA
          simp only [laws_intBeyond.j1] at H
          have H' := Aside0.mk H
          clear H
          go_wp2
          go_loopg [3] kj7 (fun kq v3 w' => ∃ (x3_3 : Int), v3 = .int .i64 x3_3 ∧ Aside0 (laws_intBeyond.l0 kq a0 x3_3 = some r) ∧ Aside0 (kq ≤ kj7) ∧ Drawn0 w w')
          case atStart => exact ⟨(x3_7), (by first | rfl | (simp; done) | (simp [*]; done)), H', ⟨Nat.le_refl _⟩, by repeat (first | exact Drawn0.refl _ | apply Drawn0.step)⟩
          case round =>
            clear H'
            try clear c1
            try clear p2
            try clear c3
            try clear c3b0
            try clear c3b1
            try clear c4
            try clear c4b0
            try clear c4b1
            try clear p5
            try clear q5
            try clear hx5
            try clear qi5
            try clear c6
            try clear c6b0
            try clear c6b1
            try clear c7
            try clear p7
            try clear q7
            try clear hx7
            try clear qi7
            try clear c9
            try clear p2
            try clear p5
            try clear p7
            try clear q5
            try clear q7
            obtain ⟨x3_3, rfl, HA, HK3, ⟨m3, rfl⟩⟩ := hrel
            cases gk with
            | zero => exact absurd HA.out (by simp [laws_intBeyond.l0])
            | succ k3 =>
              have H := HA.out
              clear HA
              simp only [laws_intBeyond.l0] at H
              by_cases c10 : x3_3 < (a0.size : Int)
              · rw [if_pos c10] at H
                have c10b0 : decide (x3_3 < (a0.size : Int)) = true := decide_eq_true c10
                clear c10
                by_cases c11 : 0 ≤ x3_3
                · rw [if_pos c11] at H
                  have c11b0 : decide (0 ≤ x3_3) = true := decide_eq_true c11
                  clear c11
                  by_cases c13 : (bt a0 x3_3) ≥ 48
                  · rw [if_pos c13] at H
                    have c13b0 : decide (48 ≤ (bt a0 x3_3)) = true := decide_eq_true c13
                    clear c13
                    by_cases c15 : (bt a0 x3_3) ≤ 57
                    · rw [if_pos c15] at H
                      have c15b0 : decide ((bt a0 x3_3) ≤ 57) = true := decide_eq_true c15
                      clear c15
                      have H' := Aside0.mk H
                      clear H
                      have p12 : 0 ≤ (x3_3 : Int) := of_decide_eq_true (by first | (with_reducible assumption) | assumption)
                      have q12 : x3_3 < (a0.size : Int) := of_decide_eq_true (by first | (with_reducible assumption) | assumption)
                      have hx12 := bt_at a0 x3_3
                      replace p12 := eq_true p12
                      replace q12 := eq_true q12
                      have p14 : 0 ≤ (x3_3 : Int) := of_decide_eq_true (by first | (with_reducible assumption) | assumption)
                      have q14 : x3_3 < (a0.size : Int) := of_decide_eq_true (by first | (with_reducible assumption) | assumption)
                      have hx14 := bt_at a0 x3_3
                      replace p14 := eq_true p14
                      replace q14 := eq_true q14
                      go_wp2
                      go_roundg k3
                      case measure => have := HJ1.out; have := HJ7.out; have := HK3.out; omega
                      case rel => exact ⟨(wrap64 (x3_3 + 1)), (by first | rfl | (simp; done) | (simp [*]; done)), H', ⟨by have := HJ1.out; have := HJ7.out; have := HK3.out; omega⟩, by repeat (first | exact Drawn0.refl _ | apply Drawn0.step)⟩
                    · rw [if_neg c15] at H
                      have c15b0 : decide ((bt a0 x3_3) ≤ 57) = false := decide_eq_false c15
                      clear c15
                      have c16b0 := eq_true (of_decide_eq_true (by first | (with_reducible assumption) | assumption) : 0 ≤ x3_3)
                      by_cases c17 : x3_3 ≤ (a0.size : Int)
                      · rw [if_pos c17] at H
                        have c17b0 := eq_true c17
                        have c17b1 : decide (x3_3 ≤ (a0.size : Int)) = true := decide_eq_true c17
                        clear c17
                        replace H := Option.bind_eq_some_iff.mp H
                        obtain ⟨⟨t104, t105⟩, A180, H⟩ := H
                        replace H : (if x3_3 > 18 then (some (!t105)) else (some false)) = some r := H
                        have A18 := Aside0.mk A180
                        clear A180
                        by_cases c19 : x3_3 > 18
                        · rw [if_pos c19] at H
                          have c19b0 : decide (18 < x3_3) = true := decide_eq_true c19
                          clear c19
                          obtain rfl := Option.some.inj H
                          have p12 : 0 ≤ (x3_3 : Int) := of_decide_eq_true (by first | (with_reducible assumption) | assumption)
                          have q12 : x3_3 < (a0.size : Int) := of_decide_eq_true (by first | (with_reducible assumption) | assumption)
                          have hx12 := bt_at a0 x3_3
                          replace p12 := eq_true p12
                          replace q12 := eq_true q12
                          have p14 : 0 ≤ (x3_3 : Int) := of_decide_eq_true (by first | (with_reducible assumption) | assumption)
                          have q14 : x3_3 < (a0.size : Int) := of_decide_eq_true (by first | (with_reducible assumption) | assumption)
                          have hx14 := bt_at a0 x3_3
                          replace p14 := eq_true p14
                          replace q14 := eq_true q14
                          go_wp2_with (first | ((with_reducible refine gate_callee (f := 8) rfl ?_); refine goesL_ (some 40) rfl rfl Tryd.func8 (by kernel_rfl) rfl #[.string (a0.extract 0 (x3_3 : Int).toNat), .int .i64 (-9223372036854775808), .int .i64 9223372036854775807] rfl (by (try simp only [List.map_toArray, List.map_cons, List.map_nil]); first | done | rfl | (simp only [List.length_drop, List.length_take]; rfl)) ?_; (with_reducible refine (spec_NumWhole.calls k3 (a0.extract 0 (x3_3 : Int).toNat) (-9223372036854775808) 9223372036854775807 t104 t105 _ A18.out).mono ?_); rintro e w' ⟨rfl, ⟨nd, rfl⟩⟩; refine ⟨_, rfl, ?_⟩))
                          go_ret
                          exact ⟨by first | rfl | (simp; done) | (simp [*]; done), by repeat (first | exact Drawn0.refl _ | apply Drawn0.step)⟩
                        · rw [if_neg c19] at H
                          have c19b0 : decide (18 < x3_3) = false := decide_eq_false c19
                          clear c19
                          obtain rfl := Option.some.inj H
                          have p12 : 0 ≤ (x3_3 : Int) := of_decide_eq_true (by first | (with_reducible assumption) | assumption)
                          have q12 : x3_3 < (a0.size : Int) := of_decide_eq_true (by first | (with_reducible assumption) | assumption)
                          have hx12 := bt_at a0 x3_3
                          replace p12 := eq_true p12
                          replace q12 := eq_true q12
                          have p14 : 0 ≤ (x3_3 : Int) := of_decide_eq_true (by first | (with_reducible assumption) | assumption)
                          have q14 : x3_3 < (a0.size : Int) := of_decide_eq_true (by first | (with_reducible assumption) | assumption)
                          have hx14 := bt_at a0 x3_3
                          replace p14 := eq_true p14
                          replace q14 := eq_true q14
                          go_wp2_with (first | ((with_reducible refine gate_callee (f := 8) rfl ?_); refine goesL_ (some 40) rfl rfl Tryd.func8 (by kernel_rfl) rfl #[.string (a0.extract 0 (x3_3 : Int).toNat), .int .i64 (-9223372036854775808), .int .i64 9223372036854775807] rfl (by (try simp only [List.map_toArray, List.map_cons, List.map_nil]); first | done | rfl | (simp only [List.length_drop, List.length_take]; rfl)) ?_; (with_reducible refine (spec_NumWhole.calls k3 (a0.extract 0 (x3_3 : Int).toNat) (-9223372036854775808) 9223372036854775807 t104 t105 _ A18.out).mono ?_); rintro e w' ⟨rfl, ⟨nd, rfl⟩⟩; refine ⟨_, rfl, ?_⟩))
                          go_ret
                          exact ⟨by first | rfl | (simp; done) | (simp [*]; done), by repeat (first | exact Drawn0.refl _ | apply Drawn0.step)⟩
                      · rw [if_neg c17] at H
                        exact absurd H (by simp)
                  · rw [if_neg c13] at H
                    have c13b0 : decide (48 ≤ (bt a0 x3_3)) = false := decide_eq_false c13
                    clear c13
                    have c20b0 := eq_true (of_decide_eq_true (by first | (with_reducible assumption) | assumption) : 0 ≤ x3_3)
                    by_cases c21 : x3_3 ≤ (a0.size : Int)
                    · rw [if_pos c21] at H
                      have c21b0 := eq_true c21
                      have c21b1 : decide (x3_3 ≤ (a0.size : Int)) = true := decide_eq_true c21
                      clear c21
                      replace H := Option.bind_eq_some_iff.mp H
                      obtain ⟨⟨t106, t107⟩, A220, H⟩ := H
                      replace H : (if x3_3 > 18 then (some (!t107)) else (some false)) = some r := H
                      have A22 := Aside0.mk A220
                      clear A220
                      by_cases c23 : x3_3 > 18
                      · rw [if_pos c23] at H
                        have c23b0 : decide (18 < x3_3) = true := decide_eq_true c23
                        clear c23
                        obtain rfl := Option.some.inj H
                        have p12 : 0 ≤ (x3_3 : Int) := of_decide_eq_true (by first | (with_reducible assumption) | assumption)
                        have q12 : x3_3 < (a0.size : Int) := of_decide_eq_true (by first | (with_reducible assumption) | assumption)
                        have hx12 := bt_at a0 x3_3
                        replace p12 := eq_true p12
                        replace q12 := eq_true q12
                        go_wp2_with (first | ((with_reducible refine gate_callee (f := 8) rfl ?_); refine goesL_ (some 40) rfl rfl Tryd.func8 (by kernel_rfl) rfl #[.string (a0.extract 0 (x3_3 : Int).toNat), .int .i64 (-9223372036854775808), .int .i64 9223372036854775807] rfl (by (try simp only [List.map_toArray, List.map_cons, List.map_nil]); first | done | rfl | (simp only [List.length_drop, List.length_take]; rfl)) ?_; (with_reducible refine (spec_NumWhole.calls k3 (a0.extract 0 (x3_3 : Int).toNat) (-9223372036854775808) 9223372036854775807 t106 t107 _ A22.out).mono ?_); rintro e w' ⟨rfl, ⟨nd, rfl⟩⟩; refine ⟨_, rfl, ?_⟩))
                        go_ret
                        exact ⟨by first | rfl | (simp; done) | (simp [*]; done), by repeat (first | exact Drawn0.refl _ | apply Drawn0.step)⟩
                      · rw [if_neg c23] at H
                        have c23b0 : decide (18 < x3_3) = false := decide_eq_false c23
                        clear c23
                        obtain rfl := Option.some.inj H
                        have p12 : 0 ≤ (x3_3 : Int) := of_decide_eq_true (by first | (with_reducible assumption) | assumption)
                        have q12 : x3_3 < (a0.size : Int) := of_decide_eq_true (by first | (with_reducible assumption) | assumption)
                        have hx12 := bt_at a0 x3_3
                        replace p12 := eq_true p12
                        replace q12 := eq_true q12
                        go_wp2_with (first | ((with_reducible refine gate_callee (f := 8) rfl ?_); refine goesL_ (some 40) rfl rfl Tryd.func8 (by kernel_rfl) rfl #[.string (a0.extract 0 (x3_3 : Int).toNat), .int .i64 (-9223372036854775808), .int .i64 9223372036854775807] rfl (by (try simp only [List.map_toArray, List.map_cons, List.map_nil]); first | done | rfl | (simp only [List.length_drop, List.length_take]; rfl)) ?_; (with_reducible refine (spec_NumWhole.calls k3 (a0.extract 0 (x3_3 : Int).toNat) (-9223372036854775808) 9223372036854775807 t106 t107 _ A22.out).mono ?_); rintro e w' ⟨rfl, ⟨nd, rfl⟩⟩; refine ⟨_, rfl, ?_⟩))
                        go_ret
                        exact ⟨by first | rfl | (simp; done) | (simp [*]; done), by repeat (first | exact Drawn0.refl _ | apply Drawn0.step)⟩
                    · rw [if_neg c21] at H
                      exact absurd H (by simp)
                · rw [if_neg c11] at H
                  exact absurd H (by simp)
              · rw [if_neg c10] at H
                have c10b0 : decide (x3_3 < (a0.size : Int)) = false := decide_eq_false c10
                clear c10
                by_cases c24 : 0 ≤ x3_3
                · rw [if_pos c24] at H
                  have c24b0 := eq_true c24
                  have c24b1 : decide (0 ≤ x3_3) = true := decide_eq_true c24
                  clear c24
                  by_cases c25 : x3_3 ≤ (a0.size : Int)
                  · rw [if_pos c25] at H
                    have c25b0 := eq_true c25
                    have c25b1 : decide (x3_3 ≤ (a0.size : Int)) = true := decide_eq_true c25
                    clear c25
                    replace H := Option.bind_eq_some_iff.mp H
                    obtain ⟨⟨t108, t109⟩, A260, H⟩ := H
                    replace H : (if x3_3 > 18 then (some (!t109)) else (some false)) = some r := H
                    have A26 := Aside0.mk A260
                    clear A260
                    by_cases c27 : x3_3 > 18
                    · rw [if_pos c27] at H
                      have c27b0 : decide (18 < x3_3) = true := decide_eq_true c27
                      clear c27
                      obtain rfl := Option.some.inj H
                      go_wp2_with (first | ((with_reducible refine gate_callee (f := 8) rfl ?_); refine goesL_ (some 40) rfl rfl Tryd.func8 (by kernel_rfl) rfl #[.string (a0.extract 0 (x3_3 : Int).toNat), .int .i64 (-9223372036854775808), .int .i64 9223372036854775807] rfl (by (try simp only [List.map_toArray, List.map_cons, List.map_nil]); first | done | rfl | (simp only [List.length_drop, List.length_take]; rfl)) ?_; (with_reducible refine (spec_NumWhole.calls k3 (a0.extract 0 (x3_3 : Int).toNat) (-9223372036854775808) 9223372036854775807 t108 t109 _ A26.out).mono ?_); rintro e w' ⟨rfl, ⟨nd, rfl⟩⟩; refine ⟨_, rfl, ?_⟩))
                      go_ret
                      exact ⟨by first | rfl | (simp; done) | (simp [*]; done), by repeat (first | exact Drawn0.refl _ | apply Drawn0.step)⟩
                    · rw [if_neg c27] at H
                      have c27b0 : decide (18 < x3_3) = false := decide_eq_false c27
                      clear c27
                      obtain rfl := Option.some.inj H
                      go_wp2_with (first | ((with_reducible refine gate_callee (f := 8) rfl ?_); refine goesL_ (some 40) rfl rfl Tryd.func8 (by kernel_rfl) rfl #[.string (a0.extract 0 (x3_3 : Int).toNat), .int .i64 (-9223372036854775808), .int .i64 9223372036854775807] rfl (by (try simp only [List.map_toArray, List.map_cons, List.map_nil]); first | done | rfl | (simp only [List.length_drop, List.length_take]; rfl)) ?_; (with_reducible refine (spec_NumWhole.calls k3 (a0.extract 0 (x3_3 : Int).toNat) (-9223372036854775808) 9223372036854775807 t108 t109 _ A26.out).mono ?_); rintro e w' ⟨rfl, ⟨nd, rfl⟩⟩; refine ⟨_, rfl, ?_⟩))
                      go_ret
                      exact ⟨by first | rfl | (simp; done) | (simp [*]; done), by repeat (first | exact Drawn0.refl _ | apply Drawn0.step)⟩
                  · rw [if_neg c25] at H
                    exact absurd H (by simp)
                · rw [if_neg c24] at H
                  exact absurd H (by simp)

/-! ### laws_FnIntStrValue: function 4 -/
def laws_FnIntStrValue.f (k : Nat) (a0_0 : Int) (a0_1 : Int) (a0_2 : ByteArray) : Option (Bool) := (laws_zzFits5.f a0_0 a0_1 a0_2).bind fun t111 => (if t111 = true then (if a0_0 = 1 then ((laws_intBeyond.f k a0_2).bind fun t113 => (if t113 = true then (some true) else ((spec_NumWhole.f k a0_2 (-9223372036854775808) 9223372036854775807).bind fun bt114 => ((impl_IntStrValue.f k a0_0 a0_1 a0_2).bind fun t116 => (some (t116 == bt114.1)))))) else (if a0_0 = 0 then ((impl_IntStrValue.f k a0_0 a0_1 a0_2).bind fun t112 => (some (t112 == (wrap64 (a0_1))))) else (some true))) else (some true))
theorem laws_FnIntStrValue.mono : ∀ a0 a1 a2 k, LeO (laws_FnIntStrValue.f k a0 a1 a2) (laws_FnIntStrValue.f (k + 1) a0 a1 a2) := by
  intro a0 a1 a2 k
  unfold laws_FnIntStrValue.f
  repeat' first
      | (with_reducible exact impl_IntStrValue.mono _ _ _ _)
      | (with_reducible exact laws_intBeyond.mono _ _)
      | (with_reducible exact spec_NumWhole.mono _ _ _ _)
      | (with_reducible exact LeO.refl _)
      | (with_reducible exact LeO.none _)
      | (with_reducible refine LeO.ite ?_ ?_)
      | (with_reducible refine LeO.bind ?_ (fun _ => ?_))
      | exact impl_IntStrValue.mono _ _ _ _
      | exact laws_intBeyond.mono _ _
      | exact spec_NumWhole.mono _ _ _ _
      | exact LeO.none _
      | refine LeO.ite ?_ ?_
      | refine LeO.bind ?_ (fun _ => ?_)
def laws_FnIntStrValue.T4 : Bool × List (List Nat × List Nat) := (true, [([], []), ([0], [0]), ([1], [1]), ([2], [2]), ([3], [3]), ([4, 3, 3], [3, 4]), ([3], [3]), ([6, 3], [3, 6]), ([7, 3], [3, 7]), ([5, 8, 3], [3, 5, 8]), ([3, 9], [3, 9]), ([10, 5, 0, 1, 2, 3, 4, 5, 6, 7, 8, 9, 10], [10])])
def laws_FnIntStrValue.B4 : List Nat := [0, 1, 3, 7, 15, 31, 15, 79, 207, 511, 1023, 2047]
theorem laws_FnIntStrValue.tab4 : rtab .any (opsOf Tryd.f4 4) = laws_FnIntStrValue.T4 := by kernel_rfl
theorem laws_FnIntStrValue.bits4 : waitsOk laws_FnIntStrValue.T4.2 laws_FnIntStrValue.B4 = true := by kernel_rfl
set_option maxHeartbeats 8000000 in
set_option maxRecDepth 100000 in
theorem laws_FnIntStrValue.calls (k : Nat) (a0_0 : Int) (a0_1 : Int) (a0_2 : ByteArray) (r : Bool) (w : World) (h : laws_FnIntStrValue.f k a0_0 a0_1 a0_2 = some r) (hV : Vars.Vars w := by first | assumption | exact Vars.Vars.below hV (by repeat (first | exact HB.out | exact HB | exact Below.refl _ _ | apply below_alloc | apply pw_below_drewN | apply below_drew1))) :
    Calls Tryd.prog 4 #[.agg #[.int .i64 a0_0, .int .i32 a0_1, .string a0_2]] w fun e w' => e = .returned (.bool r) ∧ Below w.heap.size w w' := by
  have hu23 := Tryd.underlying23
  have HB := Aside0.mk (Below.refl w.heap.size w)
  have H : ((laws_zzFits5.f a0_0 a0_1 a0_2).bind fun t111 => (if t111 = true then (if a0_0 = 1 then ((laws_intBeyond.f k a0_2).bind fun t113 => (if t113 = true then (some true) else ((spec_NumWhole.f k a0_2 (-9223372036854775808) 9223372036854775807).bind fun bt114 => ((impl_IntStrValue.f k a0_0 a0_1 a0_2).bind fun t116 => (some (t116 == bt114.1)))))) else (if a0_0 = 0 then ((impl_IntStrValue.f k a0_0 a0_1 a0_2).bind fun t112 => (some (t112 == (wrap64 (a0_1))))) else (some true))) else (some true))) = some r := h
  clear h
  replace H := Option.bind_eq_some_iff.mp H
  obtain ⟨t111, A20, H⟩ := H
  replace H : (if t111 = true then (if a0_0 = 1 then ((laws_intBeyond.f k a0_2).bind fun t113 => (if t113 = true then (some true) else ((spec_NumWhole.f k a0_2 (-9223372036854775808) 9223372036854775807).bind fun bt114 => ((impl_IntStrValue.f k a0_0 a0_1 a0_2).bind fun t116 => (some (t116 == bt114.1)))))) else (if a0_0 = 0 then ((impl_IntStrValue.f k a0_0 a0_1 a0_2).bind fun t112 => (some (t112 == (wrap64 (a0_1))))) else (some true))) else (some true)) = some r := H
  have A2 := Aside0.mk A20
  clear A20
  by_cases c3 : t111 = true
  · subst c3
    have H1 : (if a0_0 = 1 then ((laws_intBeyond.f k a0_2).bind fun t113 => (if t113 = true then (some true) else ((spec_NumWhole.f k a0_2 (-9223372036854775808) 9223372036854775807).bind fun bt114 => ((impl_IntStrValue.f k a0_0 a0_1 a0_2).bind fun t116 => (some (t116 == bt114.1)))))) else (if a0_0 = 0 then ((impl_IntStrValue.f k a0_0 a0_1 a0_2).bind fun t112 => (some (t112 == (wrap64 (a0_1))))) else (some true))) = some r := by rw [if_pos rfl] at H; exact H
    clear H
    have H := H1
    clear H1
    by_cases c4 : a0_0 = 1
    · rw [if_pos c4] at H
      have c4b0 : (a0_0 == 1) = true := beq_iff_eq.mpr c4
      have c4b1 : (a0_0 != 1) = false := bne_eq_false_iff_eq.mpr c4
      clear c4
      replace H := Option.bind_eq_some_iff.mp H
      obtain ⟨t113, A50, H⟩ := H
      replace H : (if t113 = true then (some true) else ((spec_NumWhole.f k a0_2 (-9223372036854775808) 9223372036854775807).bind fun bt114 => ((impl_IntStrValue.f k a0_0 a0_1 a0_2).bind fun t116 => (some (t116 == bt114.1))))) = some r := H
      have A5 := Aside0.mk A50
      clear A50
      by_cases c6 : t113 = true
      · subst c6
        have H1 : (some true) = some r := by rw [if_pos rfl] at H; exact H
        clear H
        have H := H1
        clear H1
        obtain rfl := Option.some.inj H
        go_enter Tryd.func4, Tryd.ntmps4
        go_wp2_with (first | ((with_reducible refine gate_dst (N := 1) rfl ?_); refine box_event ?hg (N := 1) ?hd (cs := #[.int .i64 a0_0, .int .i32 a0_1, .string a0_2]) (t := 23) ?hr ?_; (case hd => rfl); (case hg => rfl); (case hr => first | (go_simp; done) | (go_simp; rfl)); intro gb110 hg w7 hbox hb; have n0_ := Aside0.mk (below_step (by repeat (first | (with_reducible first | exact HB.out | apply below_alloc | apply pw_below_drewN | apply below_drew1) | exact HB.out)) hb); have n1_ := Aside0.mk (hbox); have n2_ := Aside0.mk ((by rw [hg]; exact (below_size (by repeat (first | (with_reducible first | exact HB.out | apply below_alloc | apply pw_below_drewN | apply below_drew1) | exact HB.out))) : w.heap.size ≤ gb110)); have n3_ := Aside0.mk ((by rw [hg]; exact (below_size (by repeat (first | (with_reducible first | exact HB.out | apply below_alloc | apply pw_below_drewN | apply below_drew1) | exact HB.out))) : w.heap.size ≤ gb110)); clear HB; have HB := n0_; have BK110 := n1_; have GW110 := n2_; have GE110 := n3_; clear n0_ n1_ n2_ n3_; clear hb hbox hg; have hcz8_0 : w7.cell? ⟨gb110, 0, none⟩ = some (.int .i64 a0_0) := (blk_cell BK110.out 0).trans rfl; have hcz8_1 : w7.cell? ⟨gb110, 1, none⟩ = some (.int .i32 a0_1) := (blk_cell BK110.out 1).trans rfl; have hcz8_2 : w7.cell? ⟨gb110, 2, none⟩ = some (.string a0_2) := (blk_cell BK110.out 2).trans rfl; have hfz8_0 := blk_frozen BK110.out 0; have hfz8_1 := blk_frozen BK110.out 1; have hfz8_2 := blk_frozen BK110.out 2) | ((with_reducible refine gate_callee (f := 9) rfl ?_); refine goesL_ (some 6) rfl rfl Tryd.func9 (by kernel_rfl) rfl #[.agg #[.int .i64 a0_0, .int .i32 a0_1, .string a0_2]] rfl (by (try simp only [List.map_toArray, List.map_cons, List.map_nil]); first | done | rfl | (simp only [List.length_drop, List.length_take]; rfl)) ?_; (with_reducible refine (laws_zzFits5.calls a0_0 a0_1 a0_2 true _ A2.out).mono ?_); rintro e w9 ⟨rfl, hb⟩; refine ⟨_, rfl, ?_⟩; have n0_ := Aside0.mk (blk_below (g := gb110) (o := .cells #[.int .i64 a0_0, .int .i32 a0_1, .string a0_2] 23 (0, 0)) (by (with_reducible repeat (first | refine blk_drewN ?_ _ | refine blk_drew ?_ | refine blk_alloc ?_ _)); exact BK110.out) hb); have n1_ := Aside0.mk (below_step (by repeat (first | (with_reducible first | exact HB.out | apply below_alloc | apply pw_below_drewN | apply below_drew1 | refine below_set ?_ GE110.out) | exact HB.out)) hb); clear BK110; clear HB; have BK110 := n0_; have HB := n1_; clear n0_ n1_; (try clear hb); (try clear hb2); (try clear hk); (try clear hi); have hcz10_0 : w9.cell? ⟨gb110, 0, none⟩ = some (.int .i64 a0_0) := (blk_cell BK110.out 0).trans rfl; have hcz10_1 : w9.cell? ⟨gb110, 1, none⟩ = some (.int .i32 a0_1) := (blk_cell BK110.out 1).trans rfl; have hcz10_2 : w9.cell? ⟨gb110, 2, none⟩ = some (.string a0_2) := (blk_cell BK110.out 2).trans rfl; have hfz10_0 := blk_frozen BK110.out 0; have hfz10_1 := blk_frozen BK110.out 1; have hfz10_2 := blk_frozen BK110.out 2) | ((with_reducible refine gate_callee (f := 11) rfl ?_); refine goesL_ (some 24) rfl rfl Tryd.func11 (by kernel_rfl) rfl #[.string a0_2] rfl (by (try simp only [List.map_toArray, List.map_cons, List.map_nil]); first | done | rfl | (simp only [List.length_drop, List.length_take]; rfl)) ?_; (with_reducible refine (laws_intBeyond.calls k a0_2 true _ A5.out).mono ?_); rintro e w' ⟨rfl, ⟨nd, rfl⟩⟩; refine ⟨_, rfl, ?_⟩))
        go_ret
        exact ⟨by first | rfl | (simp [errW_none, errW_some] <;> rfl) | (simp [*, errW_none, errW_some] <;> rfl), by repeat (first | (with_reducible first | exact HB.out | apply below_alloc | apply pw_below_drewN | apply below_drew1 | refine below_set ?_ GE110.out) | exact HB.out)⟩
      · replace c6 := Bool.eq_false_iff.mpr c6
        subst c6
        have H1 : ((spec_NumWhole.f k a0_2 (-9223372036854775808) 9223372036854775807).bind fun bt114 => ((impl_IntStrValue.f k a0_0 a0_1 a0_2).bind fun t116 => (some (t116 == bt114.1)))) = some r := by rw [if_neg (show ¬ (false = true) by decide)] at H; exact H
        clear H
        have H := H1
        clear H1
        replace H := Option.bind_eq_some_iff.mp H
        obtain ⟨⟨t114, t115⟩, A110, H⟩ := H
        replace H : ((impl_IntStrValue.f k a0_0 a0_1 a0_2).bind fun t116 => (some (t116 == t114))) = some r := H
        have A11 := Aside0.mk A110
        clear A110
        replace H := Option.bind_eq_some_iff.mp H
        obtain ⟨t116, A120, H⟩ := H
        replace H : (some (t116 == t114)) = some r := H
        have A12 := Aside0.mk A120
        clear A120
        obtain rfl := Option.some.inj H
        go_enter Tryd.func4, Tryd.ntmps4
        go_wp2_with (first | ((with_reducible refine gate_dst (N := 1) rfl ?_); refine box_event ?hg (N := 1) ?hd (cs := #[.int .i64 a0_0, .int .i32 a0_1, .string a0_2]) (t := 23) ?hr ?_; (case hd => rfl); (case hg => rfl); (case hr => first | (go_simp; done) | (go_simp; rfl)); intro gb110 hg w13 hbox hb; have n0_ := Aside0.mk (below_step (by repeat (first | (with_reducible first | exact HB.out | apply below_alloc | apply pw_below_drewN | apply below_drew1) | exact HB.out)) hb); have n1_ := Aside0.mk (hbox); have n2_ := Aside0.mk ((by rw [hg]; exact (below_size (by repeat (first | (with_reducible first | exact HB.out | apply below_alloc | apply pw_below_drewN | apply below_drew1) | exact HB.out))) : w.heap.size ≤ gb110)); have n3_ := Aside0.mk ((by rw [hg]; exact (below_size (by repeat (first | (with_reducible first | exact HB.out | apply below_alloc | apply pw_below_drewN | apply below_drew1) | exact HB.out))) : w.heap.size ≤ gb110)); clear HB; have HB := n0_; have BK110 := n1_; have GW110 := n2_; have GE110 := n3_; clear n0_ n1_ n2_ n3_; clear hb hbox hg; have hcz14_0 : w13.cell? ⟨gb110, 0, none⟩ = some (.int .i64 a0_0) := (blk_cell BK110.out 0).trans rfl; have hcz14_1 : w13.cell? ⟨gb110, 1, none⟩ = some (.int .i32 a0_1) := (blk_cell BK110.out 1).trans rfl; have hcz14_2 : w13.cell? ⟨gb110, 2, none⟩ = some (.string a0_2) := (blk_cell BK110.out 2).trans rfl; have hfz14_0 := blk_frozen BK110.out 0; have hfz14_1 := blk_frozen BK110.out 1; have hfz14_2 := blk_frozen BK110.out 2) | ((with_reducible refine gate_callee (f := 9) rfl ?_); refine goesL_ (some 6) rfl rfl Tryd.func9 (by kernel_rfl) rfl #[.agg #[.int .i64 a0_0, .int .i32 a0_1, .string a0_2]] rfl (by (try simp only [List.map_toArray, List.map_cons, List.map_nil]); first | done | rfl | (simp only [List.length_drop, List.length_take]; rfl)) ?_; (with_reducible refine (laws_zzFits5.calls a0_0 a0_1 a0_2 true _ A2.out).mono ?_); rintro e w15 ⟨rfl, hb⟩; refine ⟨_, rfl, ?_⟩; have n0_ := Aside0.mk (blk_below (g := gb110) (o := .cells #[.int .i64 a0_0, .int .i32 a0_1, .string a0_2] 23 (0, 0)) (by (with_reducible repeat (first | refine blk_drewN ?_ _ | refine blk_drew ?_ | refine blk_alloc ?_ _)); exact BK110.out) hb); have n1_ := Aside0.mk (below_step (by repeat (first | (with_reducible first | exact HB.out | apply below_alloc | apply pw_below_drewN | apply below_drew1 | refine below_set ?_ GE110.out) | exact HB.out)) hb); clear BK110; clear HB; have BK110 := n0_; have HB := n1_; clear n0_ n1_; (try clear hb); (try clear hb2); (try clear hk); (try clear hi); have hcz16_0 : w15.cell? ⟨gb110, 0, none⟩ = some (.int .i64 a0_0) := (blk_cell BK110.out 0).trans rfl; have hcz16_1 : w15.cell? ⟨gb110, 1, none⟩ = some (.int .i32 a0_1) := (blk_cell BK110.out 1).trans rfl; have hcz16_2 : w15.cell? ⟨gb110, 2, none⟩ = some (.string a0_2) := (blk_cell BK110.out 2).trans rfl; have hfz16_0 := blk_frozen BK110.out 0; have hfz16_1 := blk_frozen BK110.out 1; have hfz16_2 := blk_frozen BK110.out 2) | ((with_reducible refine gate_callee (f := 11) rfl ?_); refine goesL_ (some 24) rfl rfl Tryd.func11 (by kernel_rfl) rfl #[.string a0_2] rfl (by (try simp only [List.map_toArray, List.map_cons, List.map_nil]); first | done | rfl | (simp only [List.length_drop, List.length_take]; rfl)) ?_; (with_reducible refine (laws_intBeyond.calls k a0_2 false _ A5.out).mono ?_); rintro e w' ⟨rfl, ⟨nd, rfl⟩⟩; refine ⟨_, rfl, ?_⟩) | ((with_reducible refine gate_callee (f := 8) rfl ?_); refine goesL_ (some 28) rfl rfl Tryd.func8 (by kernel_rfl) rfl #[.string a0_2, .int .i64 (-9223372036854775808), .int .i64 9223372036854775807] rfl (by (try simp only [List.map_toArray, List.map_cons, List.map_nil]); first | done | rfl | (simp only [List.length_drop, List.length_take]; rfl)) ?_; (with_reducible refine (spec_NumWhole.calls k a0_2 (-9223372036854775808) 9223372036854775807 t114 t115 _ A11.out).mono ?_); rintro e w' ⟨rfl, ⟨nd, rfl⟩⟩; refine ⟨_, rfl, ?_⟩) | ((with_reducible refine gate_callee (f := 10) rfl ?_); refine goesL_ (some 32) rfl rfl Tryd.func10 (by kernel_rfl) rfl #[.agg #[.int .i64 a0_0, .int .i32 a0_1, .string a0_2]] rfl (by (try simp only [List.map_toArray, List.map_cons, List.map_nil]); first | done | rfl | (simp only [List.length_drop, List.length_take]; rfl)) ?_; (with_reducible refine (impl_IntStrValue.calls k a0_0 a0_1 a0_2 t116 _ A12.out).mono ?_); rintro e w17 ⟨rfl, hb⟩; refine ⟨_, rfl, ?_⟩; have n0_ := Aside0.mk (blk_below (g := gb110) (o := .cells #[.int .i64 a0_0, .int .i32 a0_1, .string a0_2] 23 (0, 0)) (by (with_reducible repeat (first | refine blk_drewN ?_ _ | refine blk_drew ?_ | refine blk_alloc ?_ _)); exact BK110.out) hb); have n1_ := Aside0.mk (below_step (by repeat (first | (with_reducible first | exact HB.out | apply below_alloc | apply pw_below_drewN | apply below_drew1 | refine below_set ?_ GE110.out) | exact HB.out)) hb); clear BK110; clear HB; have BK110 := n0_; have HB := n1_; clear n0_ n1_; (try clear hb); (try clear hb2); (try clear hk); (try clear hi)))
        go_ret
        exact ⟨by first | rfl | (simp [errW_none, errW_some] <;> rfl) | (simp [*, errW_none, errW_some] <;> rfl), by repeat (first | (with_reducible first | exact HB.out | apply below_alloc | apply pw_below_drewN | apply below_drew1 | refine below_set ?_ GE110.out) | exact HB.out)⟩
    · rw [if_neg c4] at H
      have c4b0 : (a0_0 == 1) = false := beq_eq_false_iff_ne.mpr c4
      have c4b1 : (a0_0 != 1) = true := bne_iff_ne.mpr c4
      by_cases c18 : a0_0 = 0
      · rw [if_pos c18] at H
        have c18b0 : (a0_0 == 0) = true := beq_iff_eq.mpr c18
        have c18b1 : (a0_0 != 0) = false := bne_eq_false_iff_eq.mpr c18
        clear c18
        replace H := Option.bind_eq_some_iff.mp H
        obtain ⟨t112, A190, H⟩ := H
        replace H : (some (t112 == (wrap64 (a0_1)))) = some r := H
        have A19 := Aside0.mk A190
        clear A190
        obtain rfl := Option.some.inj H
        go_enter Tryd.func4, Tryd.ntmps4
        try go_wp2_with (first | ((with_reducible refine gate_dst (N := 1) rfl ?_); refine box_event ?hg (N := 1) ?hd (cs := #[.int .i64 a0_0, .int .i32 a0_1, .string a0_2]) (t := 23) ?hr ?_; (case hd => rfl); (case hg => rfl); (case hr => first | (go_simp; done) | (go_simp; rfl)); intro gb110 hg w20 hbox hb; have n0_ := Aside0.mk (below_step (by repeat (first | (with_reducible first | exact HB.out | apply below_alloc | apply pw_below_drewN | apply below_drew1) | exact HB.out)) hb); have n1_ := Aside0.mk (hbox); have n2_ := Aside0.mk ((by rw [hg]; exact (below_size (by repeat (first | (with_reducible first | exact HB.out | apply below_alloc | apply pw_below_drewN | apply below_drew1) | exact HB.out))) : w.heap.size ≤ gb110)); have n3_ := Aside0.mk ((by rw [hg]; exact (below_size (by repeat (first | (with_reducible first | exact HB.out | apply below_alloc | apply pw_below_drewN | apply below_drew1) | exact HB.out))) : w.heap.size ≤ gb110)); clear HB; have HB := n0_; have BK110 := n1_; have GW110 := n2_; have GE110 := n3_; clear n0_ n1_ n2_ n3_; clear hb hbox hg; have hcz21_0 : w20.cell? ⟨gb110, 0, none⟩ = some (.int .i64 a0_0) := (blk_cell BK110.out 0).trans rfl; have hcz21_1 : w20.cell? ⟨gb110, 1, none⟩ = some (.int .i32 a0_1) := (blk_cell BK110.out 1).trans rfl; have hcz21_2 : w20.cell? ⟨gb110, 2, none⟩ = some (.string a0_2) := (blk_cell BK110.out 2).trans rfl; have hfz21_0 := blk_frozen BK110.out 0; have hfz21_1 := blk_frozen BK110.out 1; have hfz21_2 := blk_frozen BK110.out 2) | ((with_reducible refine gate_callee (f := 9) rfl ?_); refine goesL_ (some 6) rfl rfl Tryd.func9 (by kernel_rfl) rfl #[.agg #[.int .i64 a0_0, .int .i32 a0_1, .string a0_2]] rfl (by (try simp only [List.map_toArray, List.map_cons, List.map_nil]); first | done | rfl | (simp only [List.length_drop, List.length_take]; rfl)) ?_; (with_reducible refine (laws_zzFits5.calls a0_0 a0_1 a0_2 true _ A2.out).mono ?_); rintro e w22 ⟨rfl, hb⟩; refine ⟨_, rfl, ?_⟩; have n0_ := Aside0.mk (blk_below (g := gb110) (o := .cells #[.int .i64 a0_0, .int .i32 a0_1, .string a0_2] 23 (0, 0)) (by (with_reducible repeat (first | refine blk_drewN ?_ _ | refine blk_drew ?_ | refine blk_alloc ?_ _)); exact BK110.out) hb); have n1_ := Aside0.mk (below_step (by repeat (first | (with_reducible first | exact HB.out | apply below_alloc | apply pw_below_drewN | apply below_drew1 | refine below_set ?_ GE110.out) | exact HB.out)) hb); clear BK110; clear HB; have BK110 := n0_; have HB := n1_; clear n0_ n1_; (try clear hb); (try clear hb2); (try clear hk); (try clear hi); have hcz23_0 : w22.cell? ⟨gb110, 0, none⟩ = some (.int .i64 a0_0) := (blk_cell BK110.out 0).trans rfl; have hcz23_1 : w22.cell? ⟨gb110, 1, none⟩ = some (.int .i32 a0_1) := (blk_cell BK110.out 1).trans rfl; have hcz23_2 : w22.cell? ⟨gb110, 2, none⟩ = some (.string a0_2) := (blk_cell BK110.out 2).trans rfl; have hfz23_0 := blk_frozen BK110.out 0; have hfz23_1 := blk_frozen BK110.out 1; have hfz23_2 := blk_frozen BK110.out 2))
        have n0_ := Aside0.mk (blk_drew BK110.out)
        have n1_ := Aside0.mk (below_drew1 HB.out)
        clear BK110
        clear HB
        have BK110 := n0_
        have HB := n1_
        clear n0_ n1_
        refine start_ (n := 12) (S := fun w' => w'.cell? ⟨gb110, 0, none⟩ = some (.int .i64 a0_0) ∧ w'.cell? ⟨gb110, 1, none⟩ = some (.int .i32 a0_1) ∧ w'.cell? ⟨gb110, 2, none⟩ = some (.string a0_2)) (ds := []) #[false, false, false, false, false, false, false, false, false, false, false, false] (by kernel_rfl) rfl rfl ⟨(blk_cell BK110.out 0).trans rfl, (blk_cell BK110.out 1).trans rfl, (blk_cell BK110.out 2).trans rfl⟩ (fun hHeld => ?_); refine with_tabW laws_FnIntStrValue.tab4 laws_FnIntStrValue.bits4 (fun HT_ HW_ => ?_)
        generalize w22.drew = w24 at BK110 HB hHeld ⊢
        refine pure_ (i := 0) (N := some 11) (v := ?_) (a' := ?_) #[true, false, false, false, false, false, false, false, false, false, false, false] rfl rfl (any_of HT_.out (by kernel_rfl)) (fun _ _ _ h => h) (Or.inl ⟨by rfl, ?_⟩) ?_ ?_
        rotate_left
        · intro w'
          go_simp
          with_reducible rfl
        rotate_left
        · simp only [Act.put, List.setIfInBounds_toArray, List.set_cons_zero, List.set_cons_succ, i64_w, i32_w]
          rfl
        refine take_ (i := 1) (N := some 12) (v := ?_) (a' := ?_) #[true, true, false, false, false, false, false, false, false, false, false, false] rfl rfl (take_ofW HT_.out HW_.out (by kernel_rfl)) (fun _ _ _ h => h) (Or.inl ⟨by rfl, ?_⟩) hHeld ?_ ?_
        rotate_left
        · rintro w' ⟨s0, s1, s2⟩
          go_simp
          with_reducible rfl
        rotate_left
        · simp only [Act.put, List.setIfInBounds_toArray, List.set_cons_zero, List.set_cons_succ, i64_w, i32_w]
          rfl
        refine pure_ (i := 2) (N := some 13) (v := ?_) (a' := ?_) #[true, true, true, false, false, false, false, false, false, false, false, false] rfl rfl (any_of HT_.out (by kernel_rfl)) (fun _ _ _ h => h) (Or.inl ⟨by rfl, ?_⟩) ?_ ?_
        rotate_left
        · intro w'
          go_simp
          with_reducible rfl
        rotate_left
        · simp only [Act.put, List.setIfInBounds_toArray, List.set_cons_zero, List.set_cons_succ, i64_w, i32_w]
          rfl
        refine pure_ (i := 3) (N := some 14) (v := ?_) (a' := ?_) #[true, true, true, true, false, false, false, false, false, false, false, false] rfl rfl (any_of HT_.out (by kernel_rfl)) (fun _ _ _ h => h) (Or.inl ⟨by rfl, ?_⟩) ?_ ?_
        rotate_left
        · intro w'
          go_simp
          with_reducible rfl
        rotate_left
        · simp only [Act.put, List.setIfInBounds_toArray, List.set_cons_zero, List.set_cons_succ, i64_w, i32_w]
          rfl
        refine pure_ (i := 6) (N := some 17) (v := ?_) (a' := ?_) #[true, true, true, true, false, false, true, false, false, false, false, false] rfl rfl (any_of HT_.out (by kernel_rfl)) (fun _ _ _ h => h) (Or.inl ⟨by rfl, ?_⟩) ?_ ?_
        rotate_left
        · intro w'
          go_simp
          with_reducible rfl
        rotate_left
        · simp only [Act.put, List.setIfInBounds_toArray, List.set_cons_zero, List.set_cons_succ, i64_w, i32_w]
          rfl
        refine take_ (i := 4) (N := some 15) (v := ?_) (a' := ?_) #[true, true, true, true, true, false, true, false, false, false, false, false] rfl rfl (take_ofW HT_.out HW_.out (by kernel_rfl)) (fun _ _ _ h => h) (Or.inl ⟨by rfl, ?_⟩) hHeld ?_ ?_
        rotate_left
        · rintro w' ⟨s0, s1, s2⟩
          go_simp
          with_reducible rfl
        rotate_left
        · simp only [Act.put, List.setIfInBounds_toArray, List.set_cons_zero, List.set_cons_succ, i64_w, i32_w]
          rfl
        refine take_ (i := 7) (N := some 18) (v := ?_) (a' := ?_) #[true, true, true, true, true, false, true, true, false, false, false, false] rfl rfl (take_ofW HT_.out HW_.out (by kernel_rfl)) (fun _ _ _ h => h) (Or.inl ⟨by rfl, ?_⟩) hHeld ?_ ?_
        rotate_left
        · rintro w' ⟨s0, s1, s2⟩
          go_simp
          with_reducible rfl
        rotate_left
        · simp only [Act.put, List.setIfInBounds_toArray, List.set_cons_zero, List.set_cons_succ, i64_w, i32_w]
          rfl
        refine pure_ (i := 8) (N := some 19) (v := ?_) (a' := ?_) #[true, true, true, true, true, false, true, true, true, false, false, false] rfl rfl (any_of HT_.out (by kernel_rfl)) (fun _ _ _ h => h) (Or.inl ⟨by rfl, ?_⟩) ?_ ?_
        rotate_left
        · intro w'
          go_simp
          with_reducible rfl
        rotate_left
        · simp only [Act.put, List.setIfInBounds_toArray, List.set_cons_zero, List.set_cons_succ, i64_w, i32_w]
          rfl
        refine one_ (i := 5) (N := some 16) #[true, true, true, true, true, true, true, true, true, false, false, false] rfl rfl (one_of HT_.out (by kernel_rfl)) (by decide) (fun K hK => ?_)
        refine goes_ Tryd.func10 (by kernel_rfl) rfl #[.agg #[.int .i64 a0_0, .int .i32 a0_1, .string a0_2]] (by rfl) rfl rfl (by (try simp only [List.map_toArray, List.map_cons, List.map_nil]); first | done | rfl | (simp only [List.length_drop, List.length_take]; rfl)) ?_
        with_reducible refine (impl_IntStrValue.calls k a0_0 a0_1 a0_2 t112 _ A19.out).mono ?_
        rintro e w25 ⟨rfl, hb⟩
        refine ⟨_, rfl, ?_⟩
        have n0_ := Aside0.mk (blk_below (g := gb110) (o := .cells #[.int .i64 a0_0, .int .i32 a0_1, .string a0_2] 23 (0, 0)) (by (with_reducible repeat (first | refine blk_drewN ?_ _ | refine blk_drew ?_ | refine blk_alloc ?_ _)); exact BK110.out) hb)
        have n1_ := Aside0.mk (below_step (by repeat (first | (with_reducible first | exact HB.out | apply below_alloc | apply pw_below_drewN | apply below_drew1 | refine below_set ?_ GE110.out) | exact HB.out)) hb)
        clear BK110
        clear HB
        have BK110 := n0_
        have HB := n1_
        clear n0_ n1_
        (try clear hb)
        (try clear hb2)
        (try clear hk)
        (try clear hi)
        refine hK.out _ _ ⟨(blk_cell BK110.out 0).trans rfl, (blk_cell BK110.out 1).trans rfl, (blk_cell BK110.out 2).trans rfl⟩ (fun hHeld => ?_)
        clear hK K
        refine norm_ (a' := ?_) ?_ ?_
        rotate_left
        · show Act.put _ (some 16) _ = _
          simp only [Act.put, List.setIfInBounds_toArray, List.set_cons_zero, List.set_cons_succ, i64_w, i32_w]
          rfl
        refine pure_ (i := 9) (N := some 20) (v := ?_) (a' := ?_) #[true, true, true, true, true, true, true, true, true, true, false, false] rfl rfl (any_of HT_.out (by kernel_rfl)) (fun _ _ _ h => h) (Or.inl ⟨by rfl, ?_⟩) ?_ ?_
        rotate_left
        · intro w'
          go_simp
          with_reducible rfl
        rotate_left
        · simp only [Act.put, List.setIfInBounds_toArray, List.set_cons_zero, List.set_cons_succ, i64_w, i32_w]
          rfl
        refine pure_ (i := 10) (N := some 21) (v := ?_) (a' := ?_) #[true, true, true, true, true, true, true, true, true, true, true, false] rfl rfl (any_of HT_.out (by kernel_rfl)) (fun _ _ _ h => h) (Or.inl ⟨by rfl, ?_⟩) ?_ ?_
        rotate_left
        · intro w'
          go_simp
          with_reducible rfl
        rotate_left
        · simp only [Act.put, List.setIfInBounds_toArray, List.set_cons_zero, List.set_cons_succ, i64_w, i32_w]
          rfl
        refine pure_ (i := 11) (N := some 2) (v := ?_) (a' := ?_) #[true, true, true, true, true, true, true, true, true, true, true, true] rfl rfl (any_of HT_.out (by kernel_rfl)) (fun _ _ _ h => h) (Or.inl ⟨by rfl, ?_⟩) ?_ ?_
        rotate_left
        · intro w'
          go_simp
          with_reducible rfl
        rotate_left
        · simp only [Act.put, List.setIfInBounds_toArray, List.set_cons_zero, List.set_cons_succ, i64_w, i32_w]
          rfl
        refine done_ (done_of HT_.out (by kernel_rfl)) ?_
        try go_wp2
        go_ret
        exact ⟨by first | rfl | (simp [errW_none, errW_some] <;> rfl) | (simp [*, errW_none, errW_some] <;> rfl), by repeat (first | (with_reducible first | exact HB.out | apply below_alloc | apply pw_below_drewN | apply below_drew1 | refine below_set ?_ GE110.out) | exact HB.out)⟩
      · rw [if_neg c18] at H
        have c18b0 : (a0_0 == 0) = false := beq_eq_false_iff_ne.mpr c18
        have c18b1 : (a0_0 != 0) = true := bne_iff_ne.mpr c18
        obtain rfl := Option.some.inj H
        go_enter Tryd.func4, Tryd.ntmps4
        try go_wp2_with (first | ((with_reducible refine gate_dst (N := 1) rfl ?_); refine box_event ?hg (N := 1) ?hd (cs := #[.int .i64 a0_0, .int .i32 a0_1, .string a0_2]) (t := 23) ?hr ?_; (case hd => rfl); (case hg => rfl); (case hr => first | (go_simp; done) | (go_simp; rfl)); intro gb110 hg w26 hbox hb; have n0_ := Aside0.mk (below_step (by repeat (first | (with_reducible first | exact HB.out | apply below_alloc | apply pw_below_drewN | apply below_drew1) | exact HB.out)) hb); have n1_ := Aside0.mk (hbox); have n2_ := Aside0.mk ((by rw [hg]; exact (below_size (by repeat (first | (with_reducible first | exact HB.out | apply below_alloc | apply pw_below_drewN | apply below_drew1) | exact HB.out))) : w.heap.size ≤ gb110)); have n3_ := Aside0.mk ((by rw [hg]; exact (below_size (by repeat (first | (with_reducible first | exact HB.out | apply below_alloc | apply pw_below_drewN | apply below_drew1) | exact HB.out))) : w.heap.size ≤ gb110)); clear HB; have HB := n0_; have BK110 := n1_; have GW110 := n2_; have GE110 := n3_; clear n0_ n1_ n2_ n3_; clear hb hbox hg; have hcz27_0 : w26.cell? ⟨gb110, 0, none⟩ = some (.int .i64 a0_0) := (blk_cell BK110.out 0).trans rfl; have hcz27_1 : w26.cell? ⟨gb110, 1, none⟩ = some (.int .i32 a0_1) := (blk_cell BK110.out 1).trans rfl; have hcz27_2 : w26.cell? ⟨gb110, 2, none⟩ = some (.string a0_2) := (blk_cell BK110.out 2).trans rfl; have hfz27_0 := blk_frozen BK110.out 0; have hfz27_1 := blk_frozen BK110.out 1; have hfz27_2 := blk_frozen BK110.out 2) | ((with_reducible refine gate_callee (f := 9) rfl ?_); refine goesL_ (some 6) rfl rfl Tryd.func9 (by kernel_rfl) rfl #[.agg #[.int .i64 a0_0, .int .i32 a0_1, .string a0_2]] rfl (by (try simp only [List.map_toArray, List.map_cons, List.map_nil]); first | done | rfl | (simp only [List.length_drop, List.length_take]; rfl)) ?_; (with_reducible refine (laws_zzFits5.calls a0_0 a0_1 a0_2 true _ A2.out).mono ?_); rintro e w28 ⟨rfl, hb⟩; refine ⟨_, rfl, ?_⟩; have n0_ := Aside0.mk (blk_below (g := gb110) (o := .cells #[.int .i64 a0_0, .int .i32 a0_1, .string a0_2] 23 (0, 0)) (by (with_reducible repeat (first | refine blk_drewN ?_ _ | refine blk_drew ?_ | refine blk_alloc ?_ _)); exact BK110.out) hb); have n1_ := Aside0.mk (below_step (by repeat (first | (with_reducible first | exact HB.out | apply below_alloc | apply pw_below_drewN | apply below_drew1 | refine below_set ?_ GE110.out) | exact HB.out)) hb); clear BK110; clear HB; have BK110 := n0_; have HB := n1_; clear n0_ n1_; (try clear hb); (try clear hb2); (try clear hk); (try clear hi); have hcz29_0 : w28.cell? ⟨gb110, 0, none⟩ = some (.int .i64 a0_0) := (blk_cell BK110.out 0).trans rfl; have hcz29_1 : w28.cell? ⟨gb110, 1, none⟩ = some (.int .i32 a0_1) := (blk_cell BK110.out 1).trans rfl; have hcz29_2 : w28.cell? ⟨gb110, 2, none⟩ = some (.string a0_2) := (blk_cell BK110.out 2).trans rfl; have hfz29_0 := blk_frozen BK110.out 0; have hfz29_1 := blk_frozen BK110.out 1; have hfz29_2 := blk_frozen BK110.out 2))
        have n0_ := Aside0.mk (blk_drew BK110.out)
        have n1_ := Aside0.mk (below_drew1 HB.out)
        clear BK110
        clear HB
        have BK110 := n0_
        have HB := n1_
        clear n0_ n1_
        refine start_ (n := 12) (S := fun w' => w'.cell? ⟨gb110, 0, none⟩ = some (.int .i64 a0_0) ∧ w'.cell? ⟨gb110, 1, none⟩ = some (.int .i32 a0_1) ∧ w'.cell? ⟨gb110, 2, none⟩ = some (.string a0_2)) (ds := []) #[false, false, false, false, false, false, false, false, false, false, false, false] (by kernel_rfl) rfl rfl ⟨(blk_cell BK110.out 0).trans rfl, (blk_cell BK110.out 1).trans rfl, (blk_cell BK110.out 2).trans rfl⟩ (fun hHeld => ?_); refine with_tabW laws_FnIntStrValue.tab4 laws_FnIntStrValue.bits4 (fun HT_ HW_ => ?_)
        generalize w28.drew = w30 at BK110 HB hHeld ⊢
        refine pure_ (i := 0) (N := some 11) (v := ?_) (a' := ?_) #[true, false, false, false, false, false, false, false, false, false, false, false] rfl rfl (any_of HT_.out (by kernel_rfl)) (fun _ _ _ h => h) (Or.inl ⟨by rfl, ?_⟩) ?_ ?_
        rotate_left
        · intro w'
          go_simp
          with_reducible rfl
        rotate_left
        · simp only [Act.put, List.setIfInBounds_toArray, List.set_cons_zero, List.set_cons_succ, i64_w, i32_w]
          rfl
        refine take_ (i := 1) (N := some 12) (v := ?_) (a' := ?_) #[true, true, false, false, false, false, false, false, false, false, false, false] rfl rfl (take_ofW HT_.out HW_.out (by kernel_rfl)) (fun _ _ _ h => h) (Or.inl ⟨by rfl, ?_⟩) hHeld ?_ ?_
        rotate_left
        · rintro w' ⟨s0, s1, s2⟩
          go_simp
          with_reducible rfl
        rotate_left
        · simp only [Act.put, List.setIfInBounds_toArray, List.set_cons_zero, List.set_cons_succ, i64_w, i32_w]
          rfl
        refine pure_ (i := 2) (N := some 13) (v := ?_) (a' := ?_) #[true, true, true, false, false, false, false, false, false, false, false, false] rfl rfl (any_of HT_.out (by kernel_rfl)) (fun _ _ _ h => h) (Or.inl ⟨by rfl, ?_⟩) ?_ ?_
        rotate_left
        · intro w'
          go_simp
          with_reducible rfl
        rotate_left
        · simp only [Act.put, List.setIfInBounds_toArray, List.set_cons_zero, List.set_cons_succ, i64_w, i32_w]
          rfl
        refine pure_ (i := 3) (N := some 14) (v := ?_) (a' := ?_) #[true, true, true, true, false, false, false, false, false, false, false, false] rfl rfl (any_of HT_.out (by kernel_rfl)) (fun _ _ _ h => h) (Or.inl ⟨by rfl, ?_⟩) ?_ ?_
        rotate_left
        · intro w'
          go_simp
          with_reducible rfl
        rotate_left
        · simp only [Act.put, List.setIfInBounds_toArray, List.set_cons_zero, List.set_cons_succ, i64_w, i32_w]
          rfl
        refine pure_ (i := 4) (N := some 15) (v := undef) (a' := ?_) #[true, true, true, true, true, false, false, false, false, false, false, false] rfl rfl (any_of HT_.out (by kernel_rfl)) (fun _ _ _ h => h) (Or.inr ⟨by rfl, rfl⟩) ?_ ?_
        rotate_left
        · simp only [Act.put, List.setIfInBounds_toArray, List.set_cons_zero, List.set_cons_succ, i64_w, i32_w]
          rfl
        refine pure_ (i := 5) (N := some 16) (v := undef) (a' := ?_) #[true, true, true, true, true, true, false, false, false, false, false, false] rfl rfl (any_of HT_.out (by kernel_rfl)) (fun _ _ _ h => h) (Or.inr ⟨by rfl, rfl⟩) ?_ ?_
        rotate_left
        · simp only [Act.put, List.setIfInBounds_toArray, List.set_cons_zero, List.set_cons_succ, i64_w, i32_w]
          rfl
        refine pure_ (i := 6) (N := some 17) (v := undef) (a' := ?_) #[true, true, true, true, true, true, true, false, false, false, false, false] rfl rfl (any_of HT_.out (by kernel_rfl)) (fun _ _ _ h => h) (Or.inr ⟨by rfl, rfl⟩) ?_ ?_
        rotate_left
        · simp only [Act.put, List.setIfInBounds_toArray, List.set_cons_zero, List.set_cons_succ, i64_w, i32_w]
          rfl
        refine pure_ (i := 7) (N := some 18) (v := undef) (a' := ?_) #[true, true, true, true, true, true, true, true, false, false, false, false] rfl rfl (any_of HT_.out (by kernel_rfl)) (fun _ _ _ h => h) (Or.inr ⟨by rfl, rfl⟩) ?_ ?_
        rotate_left
        · simp only [Act.put, List.setIfInBounds_toArray, List.set_cons_zero, List.set_cons_succ, i64_w, i32_w]
          rfl
        refine pure_ (i := 8) (N := some 19) (v := undef) (a' := ?_) #[true, true, true, true, true, true, true, true, true, false, false, false] rfl rfl (any_of HT_.out (by kernel_rfl)) (fun _ _ _ h => h) (Or.inr ⟨by rfl, rfl⟩) ?_ ?_
        rotate_left
        · simp only [Act.put, List.setIfInBounds_toArray, List.set_cons_zero, List.set_cons_succ, i64_w, i32_w]
          rfl
        refine pure_ (i := 9) (N := some 20) (v := undef) (a' := ?_) #[true, true, true, true, true, true, true, true, true, true, false, false] rfl rfl (any_of HT_.out (by kernel_rfl)) (fun _ _ _ h => h) (Or.inr ⟨by rfl, rfl⟩) ?_ ?_
        rotate_left
        · simp only [Act.put, List.setIfInBounds_toArray, List.set_cons_zero, List.set_cons_succ, i64_w, i32_w]
          rfl
        refine pure_ (i := 10) (N := some 21) (v := ?_) (a' := ?_) #[true, true, true, true, true, true, true, true, true, true, true, false] rfl rfl (any_of HT_.out (by kernel_rfl)) (fun _ _ _ h => h) (Or.inl ⟨by rfl, ?_⟩) ?_ ?_
        rotate_left
        · intro w'
          go_simp
          with_reducible rfl
        rotate_left
        · simp only [Act.put, List.setIfInBounds_toArray, List.set_cons_zero, List.set_cons_succ, i64_w, i32_w]
          rfl
        refine pure_ (i := 11) (N := some 2) (v := ?_) (a' := ?_) #[true, true, true, true, true, true, true, true, true, true, true, true] rfl rfl (any_of HT_.out (by kernel_rfl)) (fun _ _ _ h => h) (Or.inl ⟨by rfl, ?_⟩) ?_ ?_
        rotate_left
        · intro w'
          go_simp
          with_reducible rfl
        rotate_left
        · simp only [Act.put, List.setIfInBounds_toArray, List.set_cons_zero, List.set_cons_succ, i64_w, i32_w]
          rfl
        refine done_ (done_of HT_.out (by kernel_rfl)) ?_
        try go_wp2
        go_ret
        exact ⟨by first | rfl | (simp [errW_none, errW_some] <;> rfl) | (simp [*, errW_none, errW_some] <;> rfl), by repeat (first | (with_reducible first | exact HB.out | apply below_alloc | apply pw_below_drewN | apply below_drew1 | refine below_set ?_ GE110.out) | exact HB.out)⟩
  · replace c3 := Bool.eq_false_iff.mpr c3
    subst c3
    have H1 : (some true) = some r := by rw [if_neg (show ¬ (false = true) by decide)] at H; exact H
    clear H
    have H := H1
    clear H1
    obtain rfl := Option.some.inj H
    go_enter Tryd.func4, Tryd.ntmps4
    go_wp2_with (first | ((with_reducible refine gate_dst (N := 1) rfl ?_); refine box_event ?hg (N := 1) ?hd (cs := #[.int .i64 a0_0, .int .i32 a0_1, .string a0_2]) (t := 23) ?hr ?_; (case hd => rfl); (case hg => rfl); (case hr => first | (go_simp; done) | (go_simp; rfl)); intro gb110 hg w31 hbox hb; have n0_ := Aside0.mk (below_step (by repeat (first | (with_reducible first | exact HB.out | apply below_alloc | apply pw_below_drewN | apply below_drew1) | exact HB.out)) hb); have n1_ := Aside0.mk (hbox); have n2_ := Aside0.mk ((by rw [hg]; exact (below_size (by repeat (first | (with_reducible first | exact HB.out | apply below_alloc | apply pw_below_drewN | apply below_drew1) | exact HB.out))) : w.heap.size ≤ gb110)); have n3_ := Aside0.mk ((by rw [hg]; exact (below_size (by repeat (first | (with_reducible first | exact HB.out | apply below_alloc | apply pw_below_drewN | apply below_drew1) | exact HB.out))) : w.heap.size ≤ gb110)); clear HB; have HB := n0_; have BK110 := n1_; have GW110 := n2_; have GE110 := n3_; clear n0_ n1_ n2_ n3_; clear hb hbox hg; have hcz32_0 : w31.cell? ⟨gb110, 0, none⟩ = some (.int .i64 a0_0) := (blk_cell BK110.out 0).trans rfl; have hcz32_1 : w31.cell? ⟨gb110, 1, none⟩ = some (.int .i32 a0_1) := (blk_cell BK110.out 1).trans rfl; have hcz32_2 : w31.cell? ⟨gb110, 2, none⟩ = some (.string a0_2) := (blk_cell BK110.out 2).trans rfl; have hfz32_0 := blk_frozen BK110.out 0; have hfz32_1 := blk_frozen BK110.out 1; have hfz32_2 := blk_frozen BK110.out 2) | ((with_reducible refine gate_callee (f := 9) rfl ?_); refine goesL_ (some 6) rfl rfl Tryd.func9 (by kernel_rfl) rfl #[.agg #[.int .i64 a0_0, .int .i32 a0_1, .string a0_2]] rfl (by (try simp only [List.map_toArray, List.map_cons, List.map_nil]); first | done | rfl | (simp only [List.length_drop, List.length_take]; rfl)) ?_; (with_reducible refine (laws_zzFits5.calls a0_0 a0_1 a0_2 false _ A2.out).mono ?_); rintro e w33 ⟨rfl, hb⟩; refine ⟨_, rfl, ?_⟩; have n0_ := Aside0.mk (blk_below (g := gb110) (o := .cells #[.int .i64 a0_0, .int .i32 a0_1, .string a0_2] 23 (0, 0)) (by (with_reducible repeat (first | refine blk_drewN ?_ _ | refine blk_drew ?_ | refine blk_alloc ?_ _)); exact BK110.out) hb); have n1_ := Aside0.mk (below_step (by repeat (first | (with_reducible first | exact HB.out | apply below_alloc | apply pw_below_drewN | apply below_drew1 | refine below_set ?_ GE110.out) | exact HB.out)) hb); clear BK110; clear HB; have BK110 := n0_; have HB := n1_; clear n0_ n1_; (try clear hb); (try clear hb2); (try clear hk); (try clear hi)))
    go_ret
    exact ⟨by first | rfl | (simp [errW_none, errW_some] <;> rfl) | (simp [*, errW_none, errW_some] <;> rfl), by repeat (first | (with_reducible first | exact HB.out | apply below_alloc | apply pw_below_drewN | apply below_drew1 | refine below_set ?_ GE110.out) | exact HB.out)⟩

end Go.Proofs.YtmkpkpkcoieeiaaDoor.XFnIntStrValue
