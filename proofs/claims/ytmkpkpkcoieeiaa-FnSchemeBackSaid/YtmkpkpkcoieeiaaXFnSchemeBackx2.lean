/- A text of this session: the functions of the law FnSchemeBack, by a program that calls the kit's print and lays this session's own contracts of single functions beside. -/
import Derived.Test.YtmkpkpkcoieeiaaXFnSchemeBackx0
import Derived.Test.YtmkpkpkcoieeiaaXFnSchemeBackx1
namespace Go.Proofs.Ytmkpkpkcoieeiaa.XFnSchemeBack
open Go.RowKit Go.Proofs.YtmkpkpkcoieeiaaW.PrintWords Go.Proofs.YtmkpkpkcoieeiaaW.PrintLast Go.Proofs.YtmkpkpkcoieeiaaW.PrintMore
attribute [local go_sem] max2_int min2_int max_two min_two max_three min_three max_four min_four   -- for this text's walks alone
set_option linter.unusedVariables false
set_option linter.unusedSimpArgs false

/-! ### net_JoinSchemeNamePort: function 18 -/
def net_JoinSchemeNamePort.f (a0 : ByteArray) (a1 : ByteArray) (a2 : ByteArray) : Option (ByteArray) := if (a0.size : Int) > 0 then (if a0.size + 1 ≤ 9223372036854775807 then (if (a0 ++ (⟨#[58]⟩ : ByteArray)).size + a1.size ≤ 9223372036854775807 then (if ((a0 ++ (⟨#[58]⟩ : ByteArray)) ++ a1).size + 1 ≤ 9223372036854775807 then (if (((a0 ++ (⟨#[58]⟩ : ByteArray)) ++ a1) ++ (⟨#[58]⟩ : ByteArray)).size + a2.size ≤ 9223372036854775807 then (some ((((a0 ++ (⟨#[58]⟩ : ByteArray)) ++ a1) ++ (⟨#[58]⟩ : ByteArray)) ++ a2)) else (none)) else (none)) else (none)) else (none)) else (if (a2.size : Int) > 0 then (if a1.size + 1 ≤ 9223372036854775807 then (if (a1 ++ (⟨#[58]⟩ : ByteArray)).size + a2.size ≤ 9223372036854775807 then (some ((a1 ++ (⟨#[58]⟩ : ByteArray)) ++ a2)) else (none)) else (none)) else (some a1))
set_option maxHeartbeats 8000000 in
set_option maxRecDepth 100000 in
theorem net_JoinSchemeNamePort.calls (a0 : ByteArray) (a1 : ByteArray) (a2 : ByteArray) (r : ByteArray) (w : World) (h : net_JoinSchemeNamePort.f a0 a1 a2 = some r) :
    Calls Try.prog 18 #[.string a0, .string a1, .string a2] w fun e w' => e = .returned (.string r) ∧ Drawn0 w w' := by
  have H : (if (a0.size : Int) > 0 then (if a0.size + 1 ≤ 9223372036854775807 then (if (a0 ++ (⟨#[58]⟩ : ByteArray)).size + a1.size ≤ 9223372036854775807 then (if ((a0 ++ (⟨#[58]⟩ : ByteArray)) ++ a1).size + 1 ≤ 9223372036854775807 then (if (((a0 ++ (⟨#[58]⟩ : ByteArray)) ++ a1) ++ (⟨#[58]⟩ : ByteArray)).size + a2.size ≤ 9223372036854775807 then (some ((((a0 ++ (⟨#[58]⟩ : ByteArray)) ++ a1) ++ (⟨#[58]⟩ : ByteArray)) ++ a2)) else (none)) else (none)) else (none)) else (none)) else (if (a2.size : Int) > 0 then (if a1.size + 1 ≤ 9223372036854775807 then (if (a1 ++ (⟨#[58]⟩ : ByteArray)).size + a2.size ≤ 9223372036854775807 then (some ((a1 ++ (⟨#[58]⟩ : ByteArray)) ++ a2)) else (none)) else (none)) else (some a1))) = some r := h
  clear h
  by_cases c4 : (a0.size : Int) > 0
  · rw [if_pos c4] at H
    have c4b0 : decide (0 < (a0.size : Int)) = true := decide_eq_true c4
    have c4b1 : decide (0 < a0.size) = true := decide_eq_true (by omega)
    clear c4
    by_cases c5 : a0.size + 1 ≤ 9223372036854775807
    · rw [if_pos c5] at H
      have c5b0 := eq_true c5
      have c5b1 : decide (a0.size + 1 ≤ 9223372036854775807) = true := decide_eq_true c5
      try have c5b2 : (9223372036854775807 < a0.size + 1) = False := eq_false (Nat.not_lt.2 c5)
      by_cases c6 : (a0 ++ (⟨#[58]⟩ : ByteArray)).size + a1.size ≤ 9223372036854775807
      · rw [if_pos c6] at H
        have c6b0 := eq_true c6
        have c6b1 : decide ((a0 ++ (⟨#[58]⟩ : ByteArray)).size + a1.size ≤ 9223372036854775807) = true := decide_eq_true c6
        try have c6b2 : (9223372036854775807 < (a0 ++ (⟨#[58]⟩ : ByteArray)).size + a1.size) = False := eq_false (Nat.not_lt.2 c6)
        (try (have c6b9 : (9223372036854775807 < a0.size + 1 + a1.size) = False := eq_false (fun hq_ => by have h_ := c6; simp only [ByteArray.size_append] at h_; have e0_ : (⟨#[58]⟩ : ByteArray).size = 1 := rfl; omega)))
        by_cases c7 : ((a0 ++ (⟨#[58]⟩ : ByteArray)) ++ a1).size + 1 ≤ 9223372036854775807
        · rw [if_pos c7] at H
          have c7b0 := eq_true c7
          have c7b1 : decide (((a0 ++ (⟨#[58]⟩ : ByteArray)) ++ a1).size + 1 ≤ 9223372036854775807) = true := decide_eq_true c7
          try have c7b2 : (9223372036854775807 < ((a0 ++ (⟨#[58]⟩ : ByteArray)) ++ a1).size + 1) = False := eq_false (Nat.not_lt.2 c7)
          (try (have c7b9 : (9223372036854775807 < a0.size + 1 + a1.size + 1) = False := eq_false (fun hq_ => by have h_ := c7; simp only [ByteArray.size_append] at h_; have e0_ : (⟨#[58]⟩ : ByteArray).size = 1 := rfl; omega)))
          by_cases c8 : (((a0 ++ (⟨#[58]⟩ : ByteArray)) ++ a1) ++ (⟨#[58]⟩ : ByteArray)).size + a2.size ≤ 9223372036854775807
          · rw [if_pos c8] at H
            have c8b0 := eq_true c8
            have c8b1 : decide ((((a0 ++ (⟨#[58]⟩ : ByteArray)) ++ a1) ++ (⟨#[58]⟩ : ByteArray)).size + a2.size ≤ 9223372036854775807) = true := decide_eq_true c8
            try have c8b2 : (9223372036854775807 < (((a0 ++ (⟨#[58]⟩ : ByteArray)) ++ a1) ++ (⟨#[58]⟩ : ByteArray)).size + a2.size) = False := eq_false (Nat.not_lt.2 c8)
            (try (have c8b9 : (9223372036854775807 < a0.size + 1 + a1.size + 1 + a2.size) = False := eq_false (fun hq_ => by have h_ := c8; simp only [ByteArray.size_append] at h_; have e0_ : (⟨#[58]⟩ : ByteArray).size = 1 := rfl; omega)))
            obtain rfl := Option.some.inj H
            go_enter Try.func18, Try.ntmps18
            go_wp2
            go_ret
            exact ⟨by first | rfl | (simp; done) | (simp [*]; done), by repeat (first | exact Drawn0.refl _ | apply Drawn0.step)⟩
          · rw [if_neg c8] at H
            exact absurd H (by simp)
        · rw [if_neg c7] at H
          exact absurd H (by simp)
      · rw [if_neg c6] at H
        exact absurd H (by simp)
    · rw [if_neg c5] at H
      exact absurd H (by simp)
  · rw [if_neg c4] at H
    have c4b0 : decide (0 < (a0.size : Int)) = false := decide_eq_false c4
    have c4b1 : decide (0 < a0.size) = false := decide_eq_false (by omega)
    clear c4
    by_cases c9 : (a2.size : Int) > 0
    · rw [if_pos c9] at H
      have c9b0 : decide (0 < (a2.size : Int)) = true := decide_eq_true c9
      have c9b1 : decide (0 < a2.size) = true := decide_eq_true (by omega)
      clear c9
      by_cases c10 : a1.size + 1 ≤ 9223372036854775807
      · rw [if_pos c10] at H
        have c10b0 := eq_true c10
        have c10b1 : decide (a1.size + 1 ≤ 9223372036854775807) = true := decide_eq_true c10
        try have c10b2 : (9223372036854775807 < a1.size + 1) = False := eq_false (Nat.not_lt.2 c10)
        by_cases c11 : (a1 ++ (⟨#[58]⟩ : ByteArray)).size + a2.size ≤ 9223372036854775807
        · rw [if_pos c11] at H
          have c11b0 := eq_true c11
          have c11b1 : decide ((a1 ++ (⟨#[58]⟩ : ByteArray)).size + a2.size ≤ 9223372036854775807) = true := decide_eq_true c11
          try have c11b2 : (9223372036854775807 < (a1 ++ (⟨#[58]⟩ : ByteArray)).size + a2.size) = False := eq_false (Nat.not_lt.2 c11)
          (try (have c11b9 : (9223372036854775807 < a1.size + 1 + a2.size) = False := eq_false (fun hq_ => by have h_ := c11; simp only [ByteArray.size_append] at h_; have e0_ : (⟨#[58]⟩ : ByteArray).size = 1 := rfl; omega)))
          obtain rfl := Option.some.inj H
          go_enter Try.func18, Try.ntmps18
          go_wp2
          go_ret
          exact ⟨by first | rfl | (simp; done) | (simp [*]; done), by repeat (first | exact Drawn0.refl _ | apply Drawn0.step)⟩
        · rw [if_neg c11] at H
          exact absurd H (by simp)
      · rw [if_neg c10] at H
        exact absurd H (by simp)
    · rw [if_neg c9] at H
      have c9b0 : decide (0 < (a2.size : Int)) = false := decide_eq_false c9
      have c9b1 : decide (0 < a2.size) = false := decide_eq_false (by omega)
      clear c9
      obtain rfl := Option.some.inj H
      go_enter Try.func18, Try.ntmps18
      go_wp2
      go_ret
      exact ⟨by first | rfl | (simp; done) | (simp [*]; done), by repeat (first | exact Drawn0.refl _ | apply Drawn0.step)⟩

/-! ### impl_SchemeJoin: function 7 -/
def impl_SchemeJoin.f (a0 : ByteArray) (a1 : ByteArray) (a2 : ByteArray) : Option (ByteArray) := (net_JoinSchemeNamePort.f a0 a1 a2).bind fun t132 => (some t132)
set_option maxHeartbeats 8000000 in
set_option maxRecDepth 100000 in
theorem impl_SchemeJoin.calls (a0 : ByteArray) (a1 : ByteArray) (a2 : ByteArray) (r : ByteArray) (w : World) (h : impl_SchemeJoin.f a0 a1 a2 = some r) :
    Calls Try.prog 7 #[.string a0, .string a1, .string a2] w fun e w' => e = .returned (.string r) ∧ Drawn0 w w' := by
  have H : ((net_JoinSchemeNamePort.f a0 a1 a2).bind fun t132 => (some t132)) = some r := h
  clear h
  replace H := Option.bind_eq_some_iff.mp H
  obtain ⟨t132, A40, H⟩ := H
  replace H : (some t132) = some r := H
  have A4 := Aside0.mk A40
  clear A40
  obtain rfl := Option.some.inj H
  go_enter Try.func7, Try.ntmps7
  go_wp2_with (first | ((with_reducible refine gate_callee (f := 18) rfl ?_); refine goesL_ (some 10) rfl rfl Try.func18 (by kernel_rfl) rfl #[.string a0, .string a1, .string a2] rfl (by (try simp only [List.map_toArray, List.map_cons, List.map_nil]); first | done | rfl | (simp only [List.length_drop, List.length_take]; rfl)) ?_; (with_reducible refine (net_JoinSchemeNamePort.calls a0 a1 a2 t132 _ A4.out).mono ?_); rintro e w' ⟨rfl, ⟨nd, rfl⟩⟩; refine ⟨_, rfl, ?_⟩))
  go_ret
  exact ⟨by first | rfl | (simp; done) | (simp [*]; done), by repeat (first | exact Drawn0.refl _ | apply Drawn0.step)⟩

/-! ### laws_FnSchemeBack: function 3 -/
def laws_FnSchemeBack.j0 : Nat → Int → ByteArray → ByteArray → Bool → Option (Bool)
  | 0, _, _, _, _ => none
  | k + 1, x0, x1, x2, x19 => if x19 = true then (some true) else ((some (([(⟨#[]⟩ : ByteArray), (⟨#[104, 116, 116, 112]⟩ : ByteArray), (⟨#[104, 116, 116, 112, 115]⟩ : ByteArray)] : List ByteArray) : List ByteArray)).bind fun y133 => (if 0 ≤ (Int.tmod x0 3) then (if (Int.tmod x0 3) < (y133.length : Int) then ((spec_SchemeMay.f k (rdOf ByteArray.empty y133 (Int.tmod x0 3)) x1 x2).bind fun t137 => (if t137 = true then ((impl_SchemeJoin.f (rdOf ByteArray.empty y133 (Int.tmod x0 3)) x1 x2).bind fun t138 => ((impl_SchemeSplit.f k t138).bind fun bt139 => (if bt139.2.2.2 = true then (if bt139.1.toList = (rdOf ByteArray.empty y133 (Int.tmod x0 3)).toList then (if bt139.2.1.toList = x1.toList then (some (bt139.2.2.1.toList == x2.toList)) else (some false)) else (some false)) else (some false)))) else (some true))) else (none)) else (none)))
def laws_FnSchemeBack.f (k : Nat) (a0 : Int) (a1 : ByteArray) (a2 : ByteArray) : Option (Bool) := if (a1.size : Int) > 2147483647 then (laws_FnSchemeBack.j0 k a0 a1 a2 true) else (laws_FnSchemeBack.j0 k a0 a1 a2 (decide ((a2.size : Int) > 2147483647)))
theorem laws_FnSchemeBack.mono_l : ∀ k, (∀ y0 y1 y2 y3, LeO (laws_FnSchemeBack.j0 k y0 y1 y2 y3) (laws_FnSchemeBack.j0 (k + 1) y0 y1 y2 y3))
  | 0 => fun _ _ _ _ r h => by simp [laws_FnSchemeBack.j0] at h
  | k + 1 => by
    have ih0 := laws_FnSchemeBack.mono_l k
    · intro y0 y1 y2 y3
      unfold laws_FnSchemeBack.j0
      repeat' first
      | (with_reducible exact ih0 _ _ _ _)
      | (with_reducible exact impl_SchemeSplit.mono _ _)
      | (with_reducible exact spec_SchemeMay.mono _ _ _ _)
      | (with_reducible exact LeO.refl _)
      | (with_reducible exact LeO.none _)
      | (with_reducible refine LeO.ite ?_ ?_)
      | (with_reducible refine LeO.bind ?_ (fun _ => ?_))
      | exact ih0 _ _ _ _
      | exact impl_SchemeSplit.mono _ _
      | exact spec_SchemeMay.mono _ _ _ _
      | exact LeO.none _
      | refine LeO.ite ?_ ?_
      | refine LeO.bind ?_ (fun _ => ?_)
theorem laws_FnSchemeBack.mono : ∀ a0 a1 a2 k, LeO (laws_FnSchemeBack.f k a0 a1 a2) (laws_FnSchemeBack.f (k + 1) a0 a1 a2) := by
  intro a0 a1 a2 k
  have ih0 := laws_FnSchemeBack.mono_l k
  unfold laws_FnSchemeBack.f
  repeat' first
      | (with_reducible exact ih0 _ _ _ _)
      | (with_reducible exact impl_SchemeSplit.mono _ _)
      | (with_reducible exact spec_SchemeMay.mono _ _ _ _)
      | (with_reducible exact LeO.refl _)
      | (with_reducible exact LeO.none _)
      | (with_reducible refine LeO.ite ?_ ?_)
      | (with_reducible refine LeO.bind ?_ (fun _ => ?_))
      | exact ih0 _ _ _ _
      | exact impl_SchemeSplit.mono _ _
      | exact spec_SchemeMay.mono _ _ _ _
      | exact LeO.none _
      | refine LeO.ite ?_ ?_
      | refine LeO.bind ?_ (fun _ => ?_)
set_option maxHeartbeats 8000000 in
set_option maxRecDepth 100000 in
theorem laws_FnSchemeBack.calls (k : Nat) (a0 : Int) (a1 : ByteArray) (a2 : ByteArray) (r : Bool) (w : World) (h : laws_FnSchemeBack.f k a0 a1 a2 = some r) :
    Calls Try.prog 3 #[.int .u8 a0, .string a1, .string a2] w fun e w' => e = .returned (.bool r) ∧ Below w.heap.size w w' := by
  have HB := Aside0.mk (Below.refl w.heap.size w)
  have H : (if (a1.size : Int) > 2147483647 then (laws_FnSchemeBack.j0 k a0 a1 a2 true) else (laws_FnSchemeBack.j0 k a0 a1 a2 (decide ((a2.size : Int) > 2147483647)))) = some r := h
  clear h
  have HC4 := Aside0.mk H
  clear H
  go_enter Try.func3, Try.ntmps3
  go_upto_region 1 with (fail)
  go_cut [19] (fun v19 wc => ∃ (kq : Nat) (x19_3 : Bool), v19 = .bool x19_3 ∧ Aside0 (laws_FnSchemeBack.j0 kq a0 a1 a2 x19_3 = some r) ∧ Aside0 (kq ≤ k) ∧ Aside0 (Below w.heap.size w wc))
  case first =>
    have H := HC4.out
    clear HC4
    by_cases c5 : (a1.size : Int) > 2147483647
    · rw [if_pos c5] at H
      have c5b0 : decide (2147483647 < (a1.size : Int)) = true := decide_eq_true c5
      have c5b1 : decide (2147483647 < a1.size) = true := decide_eq_true (by omega)
      clear c5
      (first | rw [c5b0] | (simp only [i64_w, i32_w]; rw [c5b0]) | skip)
      have H' := Aside0.mk H
      clear H
      go_wp2
      go_meet
      case rel => exact ⟨_, (true), (by first | rfl | (simp; done) | (simp [*]; done)), H', ⟨by first | omega | exact Nat.le_refl _⟩, ⟨by repeat (first | (with_reducible first | exact HB.out | apply below_alloc | apply pw_below_drewN | apply below_drew1) | exact HB.out)⟩⟩
    · rw [if_neg c5] at H
      have c5b0 : decide (2147483647 < (a1.size : Int)) = false := decide_eq_false c5
      have c5b1 : decide (2147483647 < a1.size) = false := decide_eq_false (by omega)
      clear c5
      (first | rw [c5b0] | (simp only [i64_w, i32_w]; rw [c5b0]) | skip)
      have H' := Aside0.mk H
      clear H
      go_wp2
      go_meet
      case rel => exact ⟨_, (decide ((a2.size : Int) > 2147483647)), (by first | rfl | (simp; done) | (simp [*]; done)), H', ⟨by first | omega | exact Nat.le_refl _⟩, ⟨by repeat (first | (with_reducible first | exact HB.out | apply below_alloc | apply pw_below_drewN | apply below_drew1) | exact HB.out)⟩⟩
  case rest =>
    clear HC4
    try clear p2
    try clear c3
    try clear c5
    try clear c5b0
    try clear c5b1
    obtain ⟨kq, x19_3, rfl, HA, HJ3, HB⟩ := hcut
    cases kq with
    | zero => exact absurd HA.out (by simp [laws_FnSchemeBack.j0])
    | succ kj3 =>
      have H := HA.out
      clear HA
      simp only [laws_FnSchemeBack.j0] at H
      by_cases c6 : x19_3 = true
      · subst c6
        have H1 : (some true) = some r := by rw [if_pos rfl] at H; exact H
        clear H
        have H := H1
        clear H1
        obtain rfl := Option.some.inj H
        go_wp2
        go_ret
        exact ⟨by first | rfl | (simp [errW_none, errW_some] <;> rfl) | (simp [*, errW_none, errW_some] <;> rfl), by repeat (first | (with_reducible first | exact HB.out | apply below_alloc | apply pw_below_drewN | apply below_drew1) | exact HB.out)⟩
      · replace c6 := Bool.eq_false_iff.mpr c6
        subst c6
        have H1 : ((some (([(⟨#[]⟩ : ByteArray), (⟨#[104, 116, 116, 112]⟩ : ByteArray), (⟨#[104, 116, 116, 112, 115]⟩ : ByteArray)] : List ByteArray) : List ByteArray)).bind fun y133 => (if 0 ≤ (Int.tmod a0 3) then (if (Int.tmod a0 3) < (y133.length : Int) then ((spec_SchemeMay.f kj3 (rdOf ByteArray.empty y133 (Int.tmod a0 3)) a1 a2).bind fun t137 => (if t137 = true then ((impl_SchemeJoin.f (rdOf ByteArray.empty y133 (Int.tmod a0 3)) a1 a2).bind fun t138 => ((impl_SchemeSplit.f kj3 t138).bind fun bt139 => (if bt139.2.2.2 = true then (if bt139.1.toList = (rdOf ByteArray.empty y133 (Int.tmod a0 3)).toList then (if bt139.2.1.toList = a1.toList then (some (bt139.2.2.1.toList == a2.toList)) else (some false)) else (some false)) else (some false)))) else (some true))) else (none)) else (none))) = some r := by rw [if_neg (show ¬ (false = true) by decide)] at H; exact H
        clear H
        have H := H1
        clear H1
        obtain ⟨y133, hy133⟩ : ∃ y_ : List ByteArray, y_ = (([(⟨#[]⟩ : ByteArray), (⟨#[104, 116, 116, 112]⟩ : ByteArray), (⟨#[104, 116, 116, 112, 115]⟩ : ByteArray)] : List ByteArray)) := ⟨_, rfl⟩
        replace H : (if 0 ≤ (Int.tmod a0 3) then (if (Int.tmod a0 3) < (y133.length : Int) then ((spec_SchemeMay.f kj3 (rdOf ByteArray.empty y133 (Int.tmod a0 3)) a1 a2).bind fun t137 => (if t137 = true then ((impl_SchemeJoin.f (rdOf ByteArray.empty y133 (Int.tmod a0 3)) a1 a2).bind fun t138 => ((impl_SchemeSplit.f kj3 t138).bind fun bt139 => (if bt139.2.2.2 = true then (if bt139.1.toList = (rdOf ByteArray.empty y133 (Int.tmod a0 3)).toList then (if bt139.2.1.toList = a1.toList then (some (bt139.2.2.1.toList == a2.toList)) else (some false)) else (some false)) else (some false)))) else (some true))) else (none)) else (none)) = some r := by first | (rw [hy133]; with_reducible exact H) | (have H2_ := (Option.bind_some _ _).symm.trans H; rw [hy133]; with_reducible exact H2_) | (have H2_ := (Option.bind_some _ _).symm.trans H; with_reducible exact H2_) | with_reducible exact H | (rw [hy133]; exact H) | exact H
        have Ny133 := Aside0.mk hy133
        clear hy133
        obtain ⟨ji7, hji7⟩ : ∃ j_ : Int, (Int.tmod a0 3) = j_ := ⟨_, rfl⟩
        replace H : (if 0 ≤ (ji7) then (if (ji7) < (y133.length : Int) then ((spec_SchemeMay.f kj3 (rdOf ByteArray.empty y133 (ji7)) a1 a2).bind fun t137 => (if t137 = true then ((impl_SchemeJoin.f (rdOf ByteArray.empty y133 (ji7)) a1 a2).bind fun t138 => ((impl_SchemeSplit.f kj3 t138).bind fun bt139 => (if bt139.2.2.2 = true then (if bt139.1.toList = (rdOf ByteArray.empty y133 (ji7)).toList then (if bt139.2.1.toList = a1.toList then (some (bt139.2.2.1.toList == a2.toList)) else (some false)) else (some false)) else (some false)))) else (some true))) else (none)) else (none)) = some r := by first | (rw [hji7] at H; exact H) | (simp only [hji7] at H ⊢; exact H)
        by_cases c8 : 0 ≤ (ji7)
        · rw [if_pos c8] at H
          have c8b0 : decide (0 ≤ (ji7)) = true := decide_eq_true c8
          clear c8
          by_cases c9 : (ji7) < (y133.length : Int)
          · rw [if_pos c9] at H
            have c9b0 : decide ((ji7) < (y133.length : Int)) = true := decide_eq_true c9
            clear c9
            replace H := Option.bind_eq_some_iff.mp H
            obtain ⟨t137, A100, H⟩ := H
            replace H : (if t137 = true then ((impl_SchemeJoin.f (rdOf ByteArray.empty y133 (ji7)) a1 a2).bind fun t138 => ((impl_SchemeSplit.f kj3 t138).bind fun bt139 => (if bt139.2.2.2 = true then (if bt139.1.toList = (rdOf ByteArray.empty y133 (ji7)).toList then (if bt139.2.1.toList = a1.toList then (some (bt139.2.2.1.toList == a2.toList)) else (some false)) else (some false)) else (some false)))) else (some true)) = some r := H
            have A10 := Aside0.mk A100
            clear A100
            by_cases c11 : t137 = true
            · subst c11
              have H1 : ((impl_SchemeJoin.f (rdOf ByteArray.empty y133 (ji7)) a1 a2).bind fun t138 => ((impl_SchemeSplit.f kj3 t138).bind fun bt139 => (if bt139.2.2.2 = true then (if bt139.1.toList = (rdOf ByteArray.empty y133 (ji7)).toList then (if bt139.2.1.toList = a1.toList then (some (bt139.2.2.1.toList == a2.toList)) else (some false)) else (some false)) else (some false)))) = some r := by rw [if_pos rfl] at H; exact H
              clear H
              have H := H1
              clear H1
              replace H := Option.bind_eq_some_iff.mp H
              obtain ⟨t138, A120, H⟩ := H
              replace H : ((impl_SchemeSplit.f kj3 t138).bind fun bt139 => (if bt139.2.2.2 = true then (if bt139.1.toList = (rdOf ByteArray.empty y133 (ji7)).toList then (if bt139.2.1.toList = a1.toList then (some (bt139.2.2.1.toList == a2.toList)) else (some false)) else (some false)) else (some false))) = some r := H
              have A12 := Aside0.mk A120
              clear A120
              replace H := Option.bind_eq_some_iff.mp H
              obtain ⟨⟨t139, t140, t141, t142⟩, A130, H⟩ := H
              replace H : (if t142 = true then (if t139.toList = (rdOf ByteArray.empty y133 (ji7)).toList then (if t140.toList = a1.toList then (some (t141.toList == a2.toList)) else (some false)) else (some false)) else (some false)) = some r := H
              have A13 := Aside0.mk A130
              clear A130
              by_cases c14 : t142 = true
              · subst c14
                have H1 : (if t139.toList = (rdOf ByteArray.empty y133 (ji7)).toList then (if t140.toList = a1.toList then (some (t141.toList == a2.toList)) else (some false)) else (some false)) = some r := by rw [if_pos rfl] at H; exact H
                clear H
                have H := H1
                clear H1
                by_cases c15 : t139.toList = (rdOf ByteArray.empty y133 (ji7)).toList
                · rw [if_pos c15] at H
                  have c15b0 : (t139.toList == (rdOf ByteArray.empty y133 (ji7)).toList) = true := beq_iff_eq.mpr c15
                  have c15b1 : (t139.toList != (rdOf ByteArray.empty y133 (ji7)).toList) = false := bne_eq_false_iff_eq.mpr c15
                  clear c15
                  by_cases c16 : t140.toList = a1.toList
                  · rw [if_pos c16] at H
                    have c16b0 : (t140.toList == a1.toList) = true := beq_iff_eq.mpr c16
                    have c16b1 : (t140.toList != a1.toList) = false := bne_eq_false_iff_eq.mpr c16
                    clear c16
                    obtain rfl := Option.some.inj H
                    go_wp2_with (first | ((with_reducible refine gate_dst (N := 20) rfl ?_); (try (refine gate_guard (by rfl) ?_; dsimp only)); refine Kd.R_lit Kd.string _ 9 ?hg (N := 20) ?hd (xs := ([(⟨#[]⟩ : ByteArray), (⟨#[104, 116, 116, 112]⟩ : ByteArray), (⟨#[104, 116, 116, 112, 115]⟩ : ByteArray)] : List ByteArray)) (inner := [.string (⟨#[]⟩ : ByteArray), .string (⟨#[104, 116, 116, 112]⟩ : ByteArray), .string (⟨#[104, 116, 116, 112, 115]⟩ : ByteArray)]) (ok := fun _ => True) (okp := fun _ => True) ?hr ?hp (fun _ hk => hk) trivial (Below.refl _ _) (Nat.le_refl _) (by simp) ?_; (case hd => rfl); (case hg => rfl); (case hr => first | (go_simp; done) | (go_simp; rfl)); (case hp => exact (Reps.one (show Kd.M Kd.string _ _ _ (⟨#[]⟩ : ByteArray) [.string (⟨#[]⟩ : ByteArray)] from rfl) (Reps.one (show Kd.M Kd.string _ _ _ (⟨#[104, 116, 116, 112]⟩ : ByteArray) [.string (⟨#[104, 116, 116, 112]⟩ : ByteArray)] from rfl) (Reps.one (show Kd.M Kd.string _ _ _ (⟨#[104, 116, 116, 112, 115]⟩ : ByteArray) [.string (⟨#[104, 116, 116, 112, 115]⟩ : ByteArray)] from rfl) (Reps.none _ _))))); intro v134 w17 ho18 hb hg_ hnew_; clear hg_ hnew_; (first | rw [← Ny133.out] at ho18 | (simp only [Int.reduceToNat] at ho18; rw [← Ny133.out] at ho18)); have n0_ := Aside0.mk (Kd.R_lower ho18 (below_size (by repeat (first | (with_reducible first | exact HB.out | apply below_alloc | apply pw_below_drewN | apply below_drew1) | exact HB.out)))); have n1_ := Aside0.mk (below_step (by repeat (first | (with_reducible first | exact HB.out | apply below_alloc | apply pw_below_drewN | apply below_drew1) | exact HB.out)) hb); clear HB; have HO135 := n0_; have HB := n1_; clear n0_ n1_; clear hb ho18; obtain ⟨Ao19, co19, eo19⟩ := Kd.R_slice HO135.out; subst eo19; have p136 : 0 ≤ ((ji7) : Int) := of_decide_eq_true (by first | (with_reducible assumption) | assumption); have q136 : (ji7) < (y133.length : Int) := of_decide_eq_true (by first | (with_reducible assumption) | assumption); obtain ⟨ad136, e136, hx136_0⟩ := Kd.at_string (Kd.R_reads' HO135.out).2.2 (ji7) p136 q136; cases e136; replace p136 := eq_true p136; replace q136 := eq_true q136) | ((with_reducible refine gate_callee (f := 5) rfl ?_); refine goesL_ (some 28) rfl rfl Try.func5 (by kernel_rfl) rfl #[.string (rdOf ByteArray.empty y133 (ji7)), .string a1, .string a2] rfl (by (try simp only [List.map_toArray, List.map_cons, List.map_nil]); first | done | (simp only [hji7]; rfl) | rfl | (simp only [List.length_drop, List.length_take]; rfl)) ?_; (with_reducible refine (spec_SchemeMay.calls kj3 (rdOf ByteArray.empty y133 (ji7)) a1 a2 true _ A10.out).mono ?_); rintro e w20 ⟨rfl, hb⟩; refine ⟨_, rfl, ?_⟩; have n0_ := Aside0.mk (Kd.R_below (by (with_reducible repeat (first | apply Kd.R_alloc | apply Kd.R_drewN | apply Kd.R_drew)); exact HO135.out) hb); have n1_ := Aside0.mk (below_step (by repeat (first | (with_reducible first | exact HB.out | apply below_alloc | apply pw_below_drewN | apply below_drew1) | exact HB.out)) hb); clear HO135; clear HB; have HO135 := n0_; have HB := n1_; clear n0_ n1_; (try clear hb); (try clear hb2); (try clear hk); (try clear hi)) | ((with_reducible refine gate_callee (f := 7) rfl ?_); refine goesL_ (some 34) rfl rfl Try.func7 (by kernel_rfl) rfl #[.string (rdOf ByteArray.empty y133 (ji7)), .string a1, .string a2] rfl (by (try simp only [List.map_toArray, List.map_cons, List.map_nil]); first | done | (simp only [hji7]; rfl) | rfl | (simp only [List.length_drop, List.length_take]; rfl)) ?_; (with_reducible refine (impl_SchemeJoin.calls (rdOf ByteArray.empty y133 (ji7)) a1 a2 t138 _ A12.out).mono ?_); rintro e w' ⟨rfl, ⟨nd, rfl⟩⟩; refine ⟨_, rfl, ?_⟩) | ((with_reducible refine gate_callee (f := 6) rfl ?_); refine goesL_ (some 35) rfl rfl Try.func6 (by kernel_rfl) rfl #[.string t138] rfl (by (try simp only [List.map_toArray, List.map_cons, List.map_nil]); first | done | rfl | (simp only [List.length_drop, List.length_take]; rfl)) ?_; (with_reducible refine (impl_SchemeSplit.calls kj3 t138 t139 t140 t141 true _ A13.out).mono ?_); rintro e w21 ⟨rfl, hb⟩; refine ⟨_, rfl, ?_⟩; have n0_ := Aside0.mk (Kd.R_below (by (with_reducible repeat (first | apply Kd.R_alloc | apply Kd.R_drewN | apply Kd.R_drew)); exact HO135.out) hb); have n1_ := Aside0.mk (below_step (by repeat (first | (with_reducible first | exact HB.out | apply below_alloc | apply pw_below_drewN | apply below_drew1) | exact HB.out)) hb); clear HO135; clear HB; have HO135 := n0_; have HB := n1_; clear n0_ n1_; (try clear hb); (try clear hb2); (try clear hk); (try clear hi)))
                    go_ret
                    exact ⟨by first | rfl | (simp [errW_none, errW_some] <;> rfl) | (simp only [← hji7]; first | rfl | (simp [errW_none, errW_some] <;> rfl)) | (simp [*, errW_none, errW_some] <;> rfl), by repeat (first | (with_reducible first | exact HB.out | apply below_alloc | apply pw_below_drewN | apply below_drew1) | exact HB.out)⟩
                  · rw [if_neg c16] at H
                    have c16b0 : (t140.toList == a1.toList) = false := beq_eq_false_iff_ne.mpr c16
                    have c16b1 : (t140.toList != a1.toList) = true := bne_iff_ne.mpr c16
                    obtain rfl := Option.some.inj H
                    go_wp2_with (first | ((with_reducible refine gate_dst (N := 20) rfl ?_); (try (refine gate_guard (by rfl) ?_; dsimp only)); refine Kd.R_lit Kd.string _ 9 ?hg (N := 20) ?hd (xs := ([(⟨#[]⟩ : ByteArray), (⟨#[104, 116, 116, 112]⟩ : ByteArray), (⟨#[104, 116, 116, 112, 115]⟩ : ByteArray)] : List ByteArray)) (inner := [.string (⟨#[]⟩ : ByteArray), .string (⟨#[104, 116, 116, 112]⟩ : ByteArray), .string (⟨#[104, 116, 116, 112, 115]⟩ : ByteArray)]) (ok := fun _ => True) (okp := fun _ => True) ?hr ?hp (fun _ hk => hk) trivial (Below.refl _ _) (Nat.le_refl _) (by simp) ?_; (case hd => rfl); (case hg => rfl); (case hr => first | (go_simp; done) | (go_simp; rfl)); (case hp => exact (Reps.one (show Kd.M Kd.string _ _ _ (⟨#[]⟩ : ByteArray) [.string (⟨#[]⟩ : ByteArray)] from rfl) (Reps.one (show Kd.M Kd.string _ _ _ (⟨#[104, 116, 116, 112]⟩ : ByteArray) [.string (⟨#[104, 116, 116, 112]⟩ : ByteArray)] from rfl) (Reps.one (show Kd.M Kd.string _ _ _ (⟨#[104, 116, 116, 112, 115]⟩ : ByteArray) [.string (⟨#[104, 116, 116, 112, 115]⟩ : ByteArray)] from rfl) (Reps.none _ _))))); intro v134 w22 ho23 hb hg_ hnew_; clear hg_ hnew_; (first | rw [← Ny133.out] at ho23 | (simp only [Int.reduceToNat] at ho23; rw [← Ny133.out] at ho23)); have n0_ := Aside0.mk (Kd.R_lower ho23 (below_size (by repeat (first | (with_reducible first | exact HB.out | apply below_alloc | apply pw_below_drewN | apply below_drew1) | exact HB.out)))); have n1_ := Aside0.mk (below_step (by repeat (first | (with_reducible first | exact HB.out | apply below_alloc | apply pw_below_drewN | apply below_drew1) | exact HB.out)) hb); clear HB; have HO135 := n0_; have HB := n1_; clear n0_ n1_; clear hb ho23; obtain ⟨Ao24, co24, eo24⟩ := Kd.R_slice HO135.out; subst eo24; have p136 : 0 ≤ ((ji7) : Int) := of_decide_eq_true (by first | (with_reducible assumption) | assumption); have q136 : (ji7) < (y133.length : Int) := of_decide_eq_true (by first | (with_reducible assumption) | assumption); obtain ⟨ad136, e136, hx136_0⟩ := Kd.at_string (Kd.R_reads' HO135.out).2.2 (ji7) p136 q136; cases e136; replace p136 := eq_true p136; replace q136 := eq_true q136) | ((with_reducible refine gate_callee (f := 5) rfl ?_); refine goesL_ (some 28) rfl rfl Try.func5 (by kernel_rfl) rfl #[.string (rdOf ByteArray.empty y133 (ji7)), .string a1, .string a2] rfl (by (try simp only [List.map_toArray, List.map_cons, List.map_nil]); first | done | (simp only [hji7]; rfl) | rfl | (simp only [List.length_drop, List.length_take]; rfl)) ?_; (with_reducible refine (spec_SchemeMay.calls kj3 (rdOf ByteArray.empty y133 (ji7)) a1 a2 true _ A10.out).mono ?_); rintro e w25 ⟨rfl, hb⟩; refine ⟨_, rfl, ?_⟩; have n0_ := Aside0.mk (Kd.R_below (by (with_reducible repeat (first | apply Kd.R_alloc | apply Kd.R_drewN | apply Kd.R_drew)); exact HO135.out) hb); have n1_ := Aside0.mk (below_step (by repeat (first | (with_reducible first | exact HB.out | apply below_alloc | apply pw_below_drewN | apply below_drew1) | exact HB.out)) hb); clear HO135; clear HB; have HO135 := n0_; have HB := n1_; clear n0_ n1_; (try clear hb); (try clear hb2); (try clear hk); (try clear hi)) | ((with_reducible refine gate_callee (f := 7) rfl ?_); refine goesL_ (some 34) rfl rfl Try.func7 (by kernel_rfl) rfl #[.string (rdOf ByteArray.empty y133 (ji7)), .string a1, .string a2] rfl (by (try simp only [List.map_toArray, List.map_cons, List.map_nil]); first | done | (simp only [hji7]; rfl) | rfl | (simp only [List.length_drop, List.length_take]; rfl)) ?_; (with_reducible refine (impl_SchemeJoin.calls (rdOf ByteArray.empty y133 (ji7)) a1 a2 t138 _ A12.out).mono ?_); rintro e w' ⟨rfl, ⟨nd, rfl⟩⟩; refine ⟨_, rfl, ?_⟩) | ((with_reducible refine gate_callee (f := 6) rfl ?_); refine goesL_ (some 35) rfl rfl Try.func6 (by kernel_rfl) rfl #[.string t138] rfl (by (try simp only [List.map_toArray, List.map_cons, List.map_nil]); first | done | rfl | (simp only [List.length_drop, List.length_take]; rfl)) ?_; (with_reducible refine (impl_SchemeSplit.calls kj3 t138 t139 t140 t141 true _ A13.out).mono ?_); rintro e w26 ⟨rfl, hb⟩; refine ⟨_, rfl, ?_⟩; have n0_ := Aside0.mk (Kd.R_below (by (with_reducible repeat (first | apply Kd.R_alloc | apply Kd.R_drewN | apply Kd.R_drew)); exact HO135.out) hb); have n1_ := Aside0.mk (below_step (by repeat (first | (with_reducible first | exact HB.out | apply below_alloc | apply pw_below_drewN | apply below_drew1) | exact HB.out)) hb); clear HO135; clear HB; have HO135 := n0_; have HB := n1_; clear n0_ n1_; (try clear hb); (try clear hb2); (try clear hk); (try clear hi)))
                    go_ret
                    exact ⟨by first | rfl | (simp [errW_none, errW_some] <;> rfl) | (simp only [← hji7]; first | rfl | (simp [errW_none, errW_some] <;> rfl)) | (simp [*, errW_none, errW_some] <;> rfl), by repeat (first | (with_reducible first | exact HB.out | apply below_alloc | apply pw_below_drewN | apply below_drew1) | exact HB.out)⟩
                · rw [if_neg c15] at H
                  have c15b0 : (t139.toList == (rdOf ByteArray.empty y133 (ji7)).toList) = false := beq_eq_false_iff_ne.mpr c15
                  have c15b1 : (t139.toList != (rdOf ByteArray.empty y133 (ji7)).toList) = true := bne_iff_ne.mpr c15
                  obtain rfl := Option.some.inj H
                  go_wp2_with (first | ((with_reducible refine gate_dst (N := 20) rfl ?_); (try (refine gate_guard (by rfl) ?_; dsimp only)); refine Kd.R_lit Kd.string _ 9 ?hg (N := 20) ?hd (xs := ([(⟨#[]⟩ : ByteArray), (⟨#[104, 116, 116, 112]⟩ : ByteArray), (⟨#[104, 116, 116, 112, 115]⟩ : ByteArray)] : List ByteArray)) (inner := [.string (⟨#[]⟩ : ByteArray), .string (⟨#[104, 116, 116, 112]⟩ : ByteArray), .string (⟨#[104, 116, 116, 112, 115]⟩ : ByteArray)]) (ok := fun _ => True) (okp := fun _ => True) ?hr ?hp (fun _ hk => hk) trivial (Below.refl _ _) (Nat.le_refl _) (by simp) ?_; (case hd => rfl); (case hg => rfl); (case hr => first | (go_simp; done) | (go_simp; rfl)); (case hp => exact (Reps.one (show Kd.M Kd.string _ _ _ (⟨#[]⟩ : ByteArray) [.string (⟨#[]⟩ : ByteArray)] from rfl) (Reps.one (show Kd.M Kd.string _ _ _ (⟨#[104, 116, 116, 112]⟩ : ByteArray) [.string (⟨#[104, 116, 116, 112]⟩ : ByteArray)] from rfl) (Reps.one (show Kd.M Kd.string _ _ _ (⟨#[104, 116, 116, 112, 115]⟩ : ByteArray) [.string (⟨#[104, 116, 116, 112, 115]⟩ : ByteArray)] from rfl) (Reps.none _ _))))); intro v134 w27 ho28 hb hg_ hnew_; clear hg_ hnew_; (first | rw [← Ny133.out] at ho28 | (simp only [Int.reduceToNat] at ho28; rw [← Ny133.out] at ho28)); have n0_ := Aside0.mk (Kd.R_lower ho28 (below_size (by repeat (first | (with_reducible first | exact HB.out | apply below_alloc | apply pw_below_drewN | apply below_drew1) | exact HB.out)))); have n1_ := Aside0.mk (below_step (by repeat (first | (with_reducible first | exact HB.out | apply below_alloc | apply pw_below_drewN | apply below_drew1) | exact HB.out)) hb); clear HB; have HO135 := n0_; have HB := n1_; clear n0_ n1_; clear hb ho28; obtain ⟨Ao29, co29, eo29⟩ := Kd.R_slice HO135.out; subst eo29; have p136 : 0 ≤ ((ji7) : Int) := of_decide_eq_true (by first | (with_reducible assumption) | assumption); have q136 : (ji7) < (y133.length : Int) := of_decide_eq_true (by first | (with_reducible assumption) | assumption); obtain ⟨ad136, e136, hx136_0⟩ := Kd.at_string (Kd.R_reads' HO135.out).2.2 (ji7) p136 q136; cases e136; replace p136 := eq_true p136; replace q136 := eq_true q136) | ((with_reducible refine gate_callee (f := 5) rfl ?_); refine goesL_ (some 28) rfl rfl Try.func5 (by kernel_rfl) rfl #[.string (rdOf ByteArray.empty y133 (ji7)), .string a1, .string a2] rfl (by (try simp only [List.map_toArray, List.map_cons, List.map_nil]); first | done | (simp only [hji7]; rfl) | rfl | (simp only [List.length_drop, List.length_take]; rfl)) ?_; (with_reducible refine (spec_SchemeMay.calls kj3 (rdOf ByteArray.empty y133 (ji7)) a1 a2 true _ A10.out).mono ?_); rintro e w30 ⟨rfl, hb⟩; refine ⟨_, rfl, ?_⟩; have n0_ := Aside0.mk (Kd.R_below (by (with_reducible repeat (first | apply Kd.R_alloc | apply Kd.R_drewN | apply Kd.R_drew)); exact HO135.out) hb); have n1_ := Aside0.mk (below_step (by repeat (first | (with_reducible first | exact HB.out | apply below_alloc | apply pw_below_drewN | apply below_drew1) | exact HB.out)) hb); clear HO135; clear HB; have HO135 := n0_; have HB := n1_; clear n0_ n1_; (try clear hb); (try clear hb2); (try clear hk); (try clear hi)) | ((with_reducible refine gate_callee (f := 7) rfl ?_); refine goesL_ (some 34) rfl rfl Try.func7 (by kernel_rfl) rfl #[.string (rdOf ByteArray.empty y133 (ji7)), .string a1, .string a2] rfl (by (try simp only [List.map_toArray, List.map_cons, List.map_nil]); first | done | (simp only [hji7]; rfl) | rfl | (simp only [List.length_drop, List.length_take]; rfl)) ?_; (with_reducible refine (impl_SchemeJoin.calls (rdOf ByteArray.empty y133 (ji7)) a1 a2 t138 _ A12.out).mono ?_); rintro e w' ⟨rfl, ⟨nd, rfl⟩⟩; refine ⟨_, rfl, ?_⟩) | ((with_reducible refine gate_callee (f := 6) rfl ?_); refine goesL_ (some 35) rfl rfl Try.func6 (by kernel_rfl) rfl #[.string t138] rfl (by (try simp only [List.map_toArray, List.map_cons, List.map_nil]); first | done | rfl | (simp only [List.length_drop, List.length_take]; rfl)) ?_; (with_reducible refine (impl_SchemeSplit.calls kj3 t138 t139 t140 t141 true _ A13.out).mono ?_); rintro e w31 ⟨rfl, hb⟩; refine ⟨_, rfl, ?_⟩; have n0_ := Aside0.mk (Kd.R_below (by (with_reducible repeat (first | apply Kd.R_alloc | apply Kd.R_drewN | apply Kd.R_drew)); exact HO135.out) hb); have n1_ := Aside0.mk (below_step (by repeat (first | (with_reducible first | exact HB.out | apply below_alloc | apply pw_below_drewN | apply below_drew1) | exact HB.out)) hb); clear HO135; clear HB; have HO135 := n0_; have HB := n1_; clear n0_ n1_; (try clear hb); (try clear hb2); (try clear hk); (try clear hi)))
                  go_ret
                  exact ⟨by first | rfl | (simp [errW_none, errW_some] <;> rfl) | (simp only [← hji7]; first | rfl | (simp [errW_none, errW_some] <;> rfl)) | (simp [*, errW_none, errW_some] <;> rfl), by repeat (first | (with_reducible first | exact HB.out | apply below_alloc | apply pw_below_drewN | apply below_drew1) | exact HB.out)⟩
              · replace c14 := Bool.eq_false_iff.mpr c14
                subst c14
                have H1 : (some false) = some r := by rw [if_neg (show ¬ (false = true) by decide)] at H; exact H
                clear H
                have H := H1
                clear H1
                obtain rfl := Option.some.inj H
                go_wp2_with (first | ((with_reducible refine gate_dst (N := 20) rfl ?_); (try (refine gate_guard (by rfl) ?_; dsimp only)); refine Kd.R_lit Kd.string _ 9 ?hg (N := 20) ?hd (xs := ([(⟨#[]⟩ : ByteArray), (⟨#[104, 116, 116, 112]⟩ : ByteArray), (⟨#[104, 116, 116, 112, 115]⟩ : ByteArray)] : List ByteArray)) (inner := [.string (⟨#[]⟩ : ByteArray), .string (⟨#[104, 116, 116, 112]⟩ : ByteArray), .string (⟨#[104, 116, 116, 112, 115]⟩ : ByteArray)]) (ok := fun _ => True) (okp := fun _ => True) ?hr ?hp (fun _ hk => hk) trivial (Below.refl _ _) (Nat.le_refl _) (by simp) ?_; (case hd => rfl); (case hg => rfl); (case hr => first | (go_simp; done) | (go_simp; rfl)); (case hp => exact (Reps.one (show Kd.M Kd.string _ _ _ (⟨#[]⟩ : ByteArray) [.string (⟨#[]⟩ : ByteArray)] from rfl) (Reps.one (show Kd.M Kd.string _ _ _ (⟨#[104, 116, 116, 112]⟩ : ByteArray) [.string (⟨#[104, 116, 116, 112]⟩ : ByteArray)] from rfl) (Reps.one (show Kd.M Kd.string _ _ _ (⟨#[104, 116, 116, 112, 115]⟩ : ByteArray) [.string (⟨#[104, 116, 116, 112, 115]⟩ : ByteArray)] from rfl) (Reps.none _ _))))); intro v134 w32 ho33 hb hg_ hnew_; clear hg_ hnew_; (first | rw [← Ny133.out] at ho33 | (simp only [Int.reduceToNat] at ho33; rw [← Ny133.out] at ho33)); have n0_ := Aside0.mk (Kd.R_lower ho33 (below_size (by repeat (first | (with_reducible first | exact HB.out | apply below_alloc | apply pw_below_drewN | apply below_drew1) | exact HB.out)))); have n1_ := Aside0.mk (below_step (by repeat (first | (with_reducible first | exact HB.out | apply below_alloc | apply pw_below_drewN | apply below_drew1) | exact HB.out)) hb); clear HB; have HO135 := n0_; have HB := n1_; clear n0_ n1_; clear hb ho33; obtain ⟨Ao34, co34, eo34⟩ := Kd.R_slice HO135.out; subst eo34; have p136 : 0 ≤ ((ji7) : Int) := of_decide_eq_true (by first | (with_reducible assumption) | assumption); have q136 : (ji7) < (y133.length : Int) := of_decide_eq_true (by first | (with_reducible assumption) | assumption); obtain ⟨ad136, e136, hx136_0⟩ := Kd.at_string (Kd.R_reads' HO135.out).2.2 (ji7) p136 q136; cases e136; replace p136 := eq_true p136; replace q136 := eq_true q136) | ((with_reducible refine gate_callee (f := 5) rfl ?_); refine goesL_ (some 28) rfl rfl Try.func5 (by kernel_rfl) rfl #[.string (rdOf ByteArray.empty y133 (ji7)), .string a1, .string a2] rfl (by (try simp only [List.map_toArray, List.map_cons, List.map_nil]); first | done | (simp only [hji7]; rfl) | rfl | (simp only [List.length_drop, List.length_take]; rfl)) ?_; (with_reducible refine (spec_SchemeMay.calls kj3 (rdOf ByteArray.empty y133 (ji7)) a1 a2 true _ A10.out).mono ?_); rintro e w35 ⟨rfl, hb⟩; refine ⟨_, rfl, ?_⟩; have n0_ := Aside0.mk (Kd.R_below (by (with_reducible repeat (first | apply Kd.R_alloc | apply Kd.R_drewN | apply Kd.R_drew)); exact HO135.out) hb); have n1_ := Aside0.mk (below_step (by repeat (first | (with_reducible first | exact HB.out | apply below_alloc | apply pw_below_drewN | apply below_drew1) | exact HB.out)) hb); clear HO135; clear HB; have HO135 := n0_; have HB := n1_; clear n0_ n1_; (try clear hb); (try clear hb2); (try clear hk); (try clear hi)) | ((with_reducible refine gate_callee (f := 7) rfl ?_); refine goesL_ (some 34) rfl rfl Try.func7 (by kernel_rfl) rfl #[.string (rdOf ByteArray.empty y133 (ji7)), .string a1, .string a2] rfl (by (try simp only [List.map_toArray, List.map_cons, List.map_nil]); first | done | (simp only [hji7]; rfl) | rfl | (simp only [List.length_drop, List.length_take]; rfl)) ?_; (with_reducible refine (impl_SchemeJoin.calls (rdOf ByteArray.empty y133 (ji7)) a1 a2 t138 _ A12.out).mono ?_); rintro e w' ⟨rfl, ⟨nd, rfl⟩⟩; refine ⟨_, rfl, ?_⟩) | ((with_reducible refine gate_callee (f := 6) rfl ?_); refine goesL_ (some 35) rfl rfl Try.func6 (by kernel_rfl) rfl #[.string t138] rfl (by (try simp only [List.map_toArray, List.map_cons, List.map_nil]); first | done | rfl | (simp only [List.length_drop, List.length_take]; rfl)) ?_; (with_reducible refine (impl_SchemeSplit.calls kj3 t138 t139 t140 t141 false _ A13.out).mono ?_); rintro e w36 ⟨rfl, hb⟩; refine ⟨_, rfl, ?_⟩; have n0_ := Aside0.mk (Kd.R_below (by (with_reducible repeat (first | apply Kd.R_alloc | apply Kd.R_drewN | apply Kd.R_drew)); exact HO135.out) hb); have n1_ := Aside0.mk (below_step (by repeat (first | (with_reducible first | exact HB.out | apply below_alloc | apply pw_below_drewN | apply below_drew1) | exact HB.out)) hb); clear HO135; clear HB; have HO135 := n0_; have HB := n1_; clear n0_ n1_; (try clear hb); (try clear hb2); (try clear hk); (try clear hi)))
                go_ret
                exact ⟨by first | rfl | (simp [errW_none, errW_some] <;> rfl) | (simp only [← hji7]; first | rfl | (simp [errW_none, errW_some] <;> rfl)) | (simp [*, errW_none, errW_some] <;> rfl), by repeat (first | (with_reducible first | exact HB.out | apply below_alloc | apply pw_below_drewN | apply below_drew1) | exact HB.out)⟩
            · replace c11 := Bool.eq_false_iff.mpr c11
              subst c11
              have H1 : (some true) = some r := by rw [if_neg (show ¬ (false = true) by decide)] at H; exact H
              clear H
              have H := H1
              clear H1
              obtain rfl := Option.some.inj H
              go_wp2_with (first | ((with_reducible refine gate_dst (N := 20) rfl ?_); (try (refine gate_guard (by rfl) ?_; dsimp only)); refine Kd.R_lit Kd.string _ 9 ?hg (N := 20) ?hd (xs := ([(⟨#[]⟩ : ByteArray), (⟨#[104, 116, 116, 112]⟩ : ByteArray), (⟨#[104, 116, 116, 112, 115]⟩ : ByteArray)] : List ByteArray)) (inner := [.string (⟨#[]⟩ : ByteArray), .string (⟨#[104, 116, 116, 112]⟩ : ByteArray), .string (⟨#[104, 116, 116, 112, 115]⟩ : ByteArray)]) (ok := fun _ => True) (okp := fun _ => True) ?hr ?hp (fun _ hk => hk) trivial (Below.refl _ _) (Nat.le_refl _) (by simp) ?_; (case hd => rfl); (case hg => rfl); (case hr => first | (go_simp; done) | (go_simp; rfl)); (case hp => exact (Reps.one (show Kd.M Kd.string _ _ _ (⟨#[]⟩ : ByteArray) [.string (⟨#[]⟩ : ByteArray)] from rfl) (Reps.one (show Kd.M Kd.string _ _ _ (⟨#[104, 116, 116, 112]⟩ : ByteArray) [.string (⟨#[104, 116, 116, 112]⟩ : ByteArray)] from rfl) (Reps.one (show Kd.M Kd.string _ _ _ (⟨#[104, 116, 116, 112, 115]⟩ : ByteArray) [.string (⟨#[104, 116, 116, 112, 115]⟩ : ByteArray)] from rfl) (Reps.none _ _))))); intro v134 w37 ho38 hb hg_ hnew_; clear hg_ hnew_; (first | rw [← Ny133.out] at ho38 | (simp only [Int.reduceToNat] at ho38; rw [← Ny133.out] at ho38)); have n0_ := Aside0.mk (Kd.R_lower ho38 (below_size (by repeat (first | (with_reducible first | exact HB.out | apply below_alloc | apply pw_below_drewN | apply below_drew1) | exact HB.out)))); have n1_ := Aside0.mk (below_step (by repeat (first | (with_reducible first | exact HB.out | apply below_alloc | apply pw_below_drewN | apply below_drew1) | exact HB.out)) hb); clear HB; have HO135 := n0_; have HB := n1_; clear n0_ n1_; clear hb ho38; obtain ⟨Ao39, co39, eo39⟩ := Kd.R_slice HO135.out; subst eo39; have p136 : 0 ≤ ((ji7) : Int) := of_decide_eq_true (by first | (with_reducible assumption) | assumption); have q136 : (ji7) < (y133.length : Int) := of_decide_eq_true (by first | (with_reducible assumption) | assumption); obtain ⟨ad136, e136, hx136_0⟩ := Kd.at_string (Kd.R_reads' HO135.out).2.2 (ji7) p136 q136; cases e136; replace p136 := eq_true p136; replace q136 := eq_true q136) | ((with_reducible refine gate_callee (f := 5) rfl ?_); refine goesL_ (some 28) rfl rfl Try.func5 (by kernel_rfl) rfl #[.string (rdOf ByteArray.empty y133 (ji7)), .string a1, .string a2] rfl (by (try simp only [List.map_toArray, List.map_cons, List.map_nil]); first | done | (simp only [hji7]; rfl) | rfl | (simp only [List.length_drop, List.length_take]; rfl)) ?_; (with_reducible refine (spec_SchemeMay.calls kj3 (rdOf ByteArray.empty y133 (ji7)) a1 a2 false _ A10.out).mono ?_); rintro e w40 ⟨rfl, hb⟩; refine ⟨_, rfl, ?_⟩; have n0_ := Aside0.mk (Kd.R_below (by (with_reducible repeat (first | apply Kd.R_alloc | apply Kd.R_drewN | apply Kd.R_drew)); exact HO135.out) hb); have n1_ := Aside0.mk (below_step (by repeat (first | (with_reducible first | exact HB.out | apply below_alloc | apply pw_below_drewN | apply below_drew1) | exact HB.out)) hb); clear HO135; clear HB; have HO135 := n0_; have HB := n1_; clear n0_ n1_; (try clear hb); (try clear hb2); (try clear hk); (try clear hi)))
              go_ret
              exact ⟨by first | rfl | (simp [errW_none, errW_some] <;> rfl) | (simp only [← hji7]; first | rfl | (simp [errW_none, errW_some] <;> rfl)) | (simp [*, errW_none, errW_some] <;> rfl), by repeat (first | (with_reducible first | exact HB.out | apply below_alloc | apply pw_below_drewN | apply below_drew1) | exact HB.out)⟩
          · rw [if_neg c9] at H
            exact absurd H (by simp)
        · rw [if_neg c8] at H
          exact absurd H (by simp)

/-- THE ONE PURE STATEMENT of laws_FnSchemeBack: yours. -/
def laws_FnSchemeBack.Pure : Prop := ∀ (a0 : Int) (a1 : ByteArray) (a2 : ByteArray), (Lit.int .u8 a0).wf = true → a1.size ≤ 140737488351232 → a2.size ≤ 140737488351232 → ∃ k, laws_FnSchemeBack.f k a0 a1 a2 = some true
theorem laws_FnSchemeBack.walk (P : laws_FnSchemeBack.Pure) (a0 : Int) (a1 : ByteArray) (a2 : ByteArray) (w : World) (w0 : (Lit.int .u8 a0).wf = true) (w1 : a1.size ≤ 140737488351232) (w2 : a2.size ≤ 140737488351232) :
    Calls Try.prog 3 #[.int .u8 a0, .string a1, .string a2] w fun e w' => e = .returned (.bool true) ∧ Below w.heap.size w w' := by
  obtain ⟨k, h⟩ := P a0 a1 a2 w0 w1 w2
  refine (laws_FnSchemeBack.calls k a0 a1 a2 true w h).mono ?_
  rintro e w' ⟨rfl, hd⟩
  exact ⟨rfl, hd⟩

end Go.Proofs.Ytmkpkpkcoieeiaa.XFnSchemeBack
