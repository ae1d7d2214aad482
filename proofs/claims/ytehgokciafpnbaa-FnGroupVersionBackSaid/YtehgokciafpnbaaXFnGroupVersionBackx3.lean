/- A text of this session: the functions of the law FnGroupVersionBack, by a program that calls the kit's print and lays this session's own contracts of single functions beside. -/
import Derived.Test.YtehgokciafpnbaaXFnGroupVersionBackx0
import Derived.Test.YtehgokciafpnbaaXFnGroupVersionBackx1
import Derived.Test.YtehgokciafpnbaaXFnGroupVersionBackx2
namespace Go.Proofs.Ytehgokciafpnbaa.XFnGroupVersionBack
open Go.RowKit Go.Proofs.YtehgokciafpnbaaW.PrintWords Go.Proofs.YtehgokciafpnbaaW.PrintLast Go.Proofs.YtehgokciafpnbaaW.PrintMore
attribute [local go_sem] max2_int min2_int max_two min_two max_three min_three max_four min_four   -- for this text's walks alone
set_option linter.unusedVariables false
set_option linter.unusedSimpArgs false

attribute [local go_sem high] eqA26
/-! ### laws_FnGroupVersionBack: function 7 -/
mutual
def laws_FnGroupVersionBack.j0 : Nat → ByteArray → ByteArray → ByteArray → Bool → Option (Bool)
  | 0, _, _, _, _ => none
  | k + 1, x0, x1, x2, x23 => if x23 = true then (some true) else ((spec_KindPlain.f k x0 (⟨#[47]⟩ : ByteArray)).bind fun t108 => (if t108 = true then ((spec_KindPlain.f k x1 (⟨#[47]⟩ : ByteArray)).bind fun t109 => (laws_FnGroupVersionBack.j1 k x0 x1 x2 t109)) else (laws_FnGroupVersionBack.j1 k x0 x1 x2 false)))
def laws_FnGroupVersionBack.j1 : Nat → ByteArray → ByteArray → ByteArray → Bool → Option (Bool)
  | 0, _, _, _, _ => none
  | k + 1, x0, x1, x2, x29 => if x29 = true then ((impl_GroupVersionText.f x0 x1).bind fun t110 => ((impl_GroupVersionParse.f k t110).bind fun bt111 => (if bt111.2.2.2 = true then (if (!(bt111.1.toList == x0.toList) || (!(bt111.2.1.toList == x1.toList) || (!(bt111.2.2.1.toList == ([] : List UInt8))))) = true then (some false) else (laws_FnGroupVersionBack.j2 k x2)) else (some false)))) else (laws_FnGroupVersionBack.j2 k x2)
def laws_FnGroupVersionBack.j2 : Nat → ByteArray → Option (Bool)
  | 0, _ => none
  | k + 1, x2 => (impl_GroupVersionParse.f k x2).bind fun bt116 => (if bt116.2.2.2 = true then (if x2.toList = ([] : List UInt8) then ((impl_GroupVersionText.f bt116.1 bt116.2.1).bind fun t121 => (some (t121.toList == x2.toList))) else (if 0 < (x2.size : Int) then (if (bt x2 0) = 47 then (some true) else ((impl_GroupVersionText.f bt116.1 bt116.2.1).bind fun t122 => (some (t122.toList == x2.toList)))) else (none))) else (some true))
end
def laws_FnGroupVersionBack.f (k : Nat) (a0 : ByteArray) (a1 : ByteArray) (a2 : ByteArray) : Option (Bool) := if (a0.size : Int) > 2147483647 then (laws_FnGroupVersionBack.j0 k a0 a1 a2 true) else (if (a1.size : Int) > 2147483647 then (laws_FnGroupVersionBack.j0 k a0 a1 a2 true) else (laws_FnGroupVersionBack.j0 k a0 a1 a2 (decide ((a2.size : Int) > 2147483647))))
theorem laws_FnGroupVersionBack.mono_l : ∀ k, (∀ y0 y1 y2 y3, LeO (laws_FnGroupVersionBack.j0 k y0 y1 y2 y3) (laws_FnGroupVersionBack.j0 (k + 1) y0 y1 y2 y3)) ∧ (∀ y0 y1 y2 y3, LeO (laws_FnGroupVersionBack.j1 k y0 y1 y2 y3) (laws_FnGroupVersionBack.j1 (k + 1) y0 y1 y2 y3)) ∧ (∀ y0, LeO (laws_FnGroupVersionBack.j2 k y0) (laws_FnGroupVersionBack.j2 (k + 1) y0))
  | 0 => ⟨fun _ _ _ _ r h => by simp [laws_FnGroupVersionBack.j0] at h, fun _ _ _ _ r h => by simp [laws_FnGroupVersionBack.j1] at h, fun _ r h => by simp [laws_FnGroupVersionBack.j2] at h⟩
  | k + 1 => by
    obtain ⟨ih0, ih1, ih2⟩ := laws_FnGroupVersionBack.mono_l k
    refine ⟨?_, ?_, ?_⟩
    · intro y0 y1 y2 y3
      unfold laws_FnGroupVersionBack.j0
      repeat' first
      | (with_reducible exact ih0 _ _ _ _)
      | (with_reducible exact ih1 _ _ _ _)
      | (with_reducible exact ih2 _)
      | (with_reducible exact impl_GroupVersionParse.mono _ _)
      | (with_reducible exact spec_KindPlain.mono _ _ _)
      | (with_reducible exact LeO.refl _)
      | (with_reducible exact LeO.none _)
      | (with_reducible refine LeO.ite ?_ ?_)
      | (with_reducible refine LeO.bind ?_ (fun _ => ?_))
      | exact ih0 _ _ _ _
      | exact ih1 _ _ _ _
      | exact ih2 _
      | exact impl_GroupVersionParse.mono _ _
      | exact spec_KindPlain.mono _ _ _
      | exact LeO.none _
      | refine LeO.ite ?_ ?_
      | refine LeO.bind ?_ (fun _ => ?_)
    · intro y0 y1 y2 y3
      unfold laws_FnGroupVersionBack.j1
      repeat' first
      | (with_reducible exact ih0 _ _ _ _)
      | (with_reducible exact ih1 _ _ _ _)
      | (with_reducible exact ih2 _)
      | (with_reducible exact impl_GroupVersionParse.mono _ _)
      | (with_reducible exact spec_KindPlain.mono _ _ _)
      | (with_reducible exact LeO.refl _)
      | (with_reducible exact LeO.none _)
      | (with_reducible refine LeO.ite ?_ ?_)
      | (with_reducible refine LeO.bind ?_ (fun _ => ?_))
      | exact ih0 _ _ _ _
      | exact ih1 _ _ _ _
      | exact ih2 _
      | exact impl_GroupVersionParse.mono _ _
      | exact spec_KindPlain.mono _ _ _
      | exact LeO.none _
      | refine LeO.ite ?_ ?_
      | refine LeO.bind ?_ (fun _ => ?_)
    · intro y0
      unfold laws_FnGroupVersionBack.j2
      repeat' first
      | (with_reducible exact ih0 _ _ _ _)
      | (with_reducible exact ih1 _ _ _ _)
      | (with_reducible exact ih2 _)
      | (with_reducible exact impl_GroupVersionParse.mono _ _)
      | (with_reducible exact spec_KindPlain.mono _ _ _)
      | (with_reducible exact LeO.refl _)
      | (with_reducible exact LeO.none _)
      | (with_reducible refine LeO.ite ?_ ?_)
      | (with_reducible refine LeO.bind ?_ (fun _ => ?_))
      | exact ih0 _ _ _ _
      | exact ih1 _ _ _ _
      | exact ih2 _
      | exact impl_GroupVersionParse.mono _ _
      | exact spec_KindPlain.mono _ _ _
      | exact LeO.none _
      | refine LeO.ite ?_ ?_
      | refine LeO.bind ?_ (fun _ => ?_)
theorem laws_FnGroupVersionBack.mono : ∀ a0 a1 a2 k, LeO (laws_FnGroupVersionBack.f k a0 a1 a2) (laws_FnGroupVersionBack.f (k + 1) a0 a1 a2) := by
  intro a0 a1 a2 k
  obtain ⟨ih0, ih1, ih2⟩ := laws_FnGroupVersionBack.mono_l k
  unfold laws_FnGroupVersionBack.f
  repeat' first
      | (with_reducible exact ih0 _ _ _ _)
      | (with_reducible exact ih1 _ _ _ _)
      | (with_reducible exact ih2 _)
      | (with_reducible exact impl_GroupVersionParse.mono _ _)
      | (with_reducible exact spec_KindPlain.mono _ _ _)
      | (with_reducible exact LeO.refl _)
      | (with_reducible exact LeO.none _)
      | (with_reducible refine LeO.ite ?_ ?_)
      | (with_reducible refine LeO.bind ?_ (fun _ => ?_))
      | exact ih0 _ _ _ _
      | exact ih1 _ _ _ _
      | exact ih2 _
      | exact impl_GroupVersionParse.mono _ _
      | exact spec_KindPlain.mono _ _ _
      | exact LeO.none _
      | refine LeO.ite ?_ ?_
      | refine LeO.bind ?_ (fun _ => ?_)
set_option maxHeartbeats 8000000 in
set_option maxRecDepth 100000 in
theorem laws_FnGroupVersionBack.calls (k : Nat) (a0 : ByteArray) (a1 : ByteArray) (a2 : ByteArray) (r : Bool) (w : World) (h : laws_FnGroupVersionBack.f k a0 a1 a2 = some r) :
    Calls Try.prog 7 #[.string a0, .string a1, .string a2] w fun e w' => e = .returned (.bool r) ∧ Below w.heap.size w w' := by
  have hu26 := Try.underlying26
  have HB := Aside0.mk (Below.refl w.heap.size w)
  have H : (if (a0.size : Int) > 2147483647 then (laws_FnGroupVersionBack.j0 k a0 a1 a2 true) else (if (a1.size : Int) > 2147483647 then (laws_FnGroupVersionBack.j0 k a0 a1 a2 true) else (laws_FnGroupVersionBack.j0 k a0 a1 a2 (decide ((a2.size : Int) > 2147483647))))) = some r := h
  clear h
  have HC4 := Aside0.mk H
  clear H
  go_enter Try.func7, Try.ntmps7
  go_upto_region 1 with (fail)
  go_cut [23] (fun v23 wc => ∃ (kq : Nat) (x23_3 : Bool), v23 = .bool x23_3 ∧ Aside0 (laws_FnGroupVersionBack.j0 kq a0 a1 a2 x23_3 = some r) ∧ Aside0 (kq ≤ k) ∧ Aside0 (Below w.heap.size w wc))
  case first =>
    have H := HC4.out
    clear HC4
    by_cases c5 : (a0.size : Int) > 2147483647
    · rw [if_pos c5] at H
      have c5b0 : decide (2147483647 < (a0.size : Int)) = true := decide_eq_true c5
      have c5b1 : decide (2147483647 < a0.size) = true := decide_eq_true (by omega)
      clear c5
      (first | rw [c5b0] | (simp only [i64_w, i32_w]; rw [c5b0]) | skip)
      have H' := Aside0.mk H
      clear H
      go_wp2
      go_meet
      case rel => exact ⟨_, (true), (by first | rfl | (simp; done) | (simp [*]; done)), H', ⟨by first | omega | exact Nat.le_refl _⟩, ⟨by repeat (first | (with_reducible first | exact HB.out | apply below_alloc | apply pw_below_drewN | apply below_drew1) | exact HB.out)⟩⟩
    · rw [if_neg c5] at H
      have c5b0 : decide (2147483647 < (a0.size : Int)) = false := decide_eq_false c5
      have c5b1 : decide (2147483647 < a0.size) = false := decide_eq_false (by omega)
      clear c5
      (first | rw [c5b0] | (simp only [i64_w, i32_w]; rw [c5b0]) | skip)
      by_cases c6 : (a1.size : Int) > 2147483647
      · rw [if_pos c6] at H
        have c6b0 : decide (2147483647 < (a1.size : Int)) = true := decide_eq_true c6
        have c6b1 : decide (2147483647 < a1.size) = true := decide_eq_true (by omega)
        clear c6
        have H' := Aside0.mk H
        clear H
        go_wp2
        go_meet
        case rel => exact ⟨_, (true), (by first | rfl | (simp; done) | (simp [*]; done)), H', ⟨by first | omega | exact Nat.le_refl _⟩, ⟨by repeat (first | (with_reducible first | exact HB.out | apply below_alloc | apply pw_below_drewN | apply below_drew1) | exact HB.out)⟩⟩
      · rw [if_neg c6] at H
        have c6b0 : decide (2147483647 < (a1.size : Int)) = false := decide_eq_false c6
        have c6b1 : decide (2147483647 < a1.size) = false := decide_eq_false (by omega)
        clear c6
        have H' := Aside0.mk H
        clear H
        go_wp2
        go_meet
        case rel => exact ⟨_, (decide ((a2.size : Int) > 2147483647)), (by first | rfl | (simp; done) | (simp [*]; done)), H', ⟨by first | omega | exact Nat.le_refl _⟩, ⟨by repeat (first | (with_reducible first | exact HB.out | apply below_alloc | apply pw_below_drewN | apply below_drew1) | exact HB.out)⟩⟩
  case rest =>
    clear HC4
    try clear p2
    try clear c5
    try clear c5b0
    try clear c5b1
    try clear c6
    try clear c6b0
    try clear c6b1
    obtain ⟨kq, x23_3, rfl, HA, HJ3, HB⟩ := hcut
    cases kq with
    | zero => exact absurd HA.out (by simp [laws_FnGroupVersionBack.j0])
    | succ kj3 =>
      have H := HA.out
      clear HA
      simp only [laws_FnGroupVersionBack.j0] at H
      by_cases c7 : x23_3 = true
      · subst c7
        have H1 : (some true) = some r := by rw [if_pos rfl] at H; exact H
        clear H
        have H := H1
        clear H1
        obtain rfl := Option.some.inj H
        go_wp2
        go_ret
        exact ⟨by first | rfl | (simp [errW_none, errW_some] <;> rfl) | (simp [*, errW_none, errW_some] <;> rfl), by repeat (first | (with_reducible first | exact HB.out | apply below_alloc | apply pw_below_drewN | apply below_drew1) | exact HB.out)⟩
      · replace c7 := Bool.eq_false_iff.mpr c7
        subst c7
        have H1 : ((spec_KindPlain.f kj3 a0 (⟨#[47]⟩ : ByteArray)).bind fun t108 => (if t108 = true then ((spec_KindPlain.f kj3 a1 (⟨#[47]⟩ : ByteArray)).bind fun t109 => (laws_FnGroupVersionBack.j1 kj3 a0 a1 a2 t109)) else (laws_FnGroupVersionBack.j1 kj3 a0 a1 a2 false))) = some r := by rw [if_neg (show ¬ (false = true) by decide)] at H; exact H
        clear H
        have H := H1
        clear H1
        have HC8 := Aside0.mk H
        clear H
        go_upto_region 3 with (fail)
        go_cut [29] (fun v29 wc => ∃ (kq : Nat) (x29_7 : Bool), v29 = .bool x29_7 ∧ Aside0 (laws_FnGroupVersionBack.j1 kq a0 a1 a2 x29_7 = some r) ∧ Aside0 (kq ≤ kj3) ∧ Aside0 (Below w.heap.size w wc))
        case first =>
          have H := HC8.out
          clear HC8
          replace H := Option.bind_eq_some_iff.mp H
          obtain ⟨t108, A90, H⟩ := H
          replace H : (if t108 = true then ((spec_KindPlain.f kj3 a1 (⟨#[47]⟩ : ByteArray)).bind fun t109 => (laws_FnGroupVersionBack.j1 kj3 a0 a1 a2 t109)) else (laws_FnGroupVersionBack.j1 kj3 a0 a1 a2 false)) = some r := H
          have A9 := Aside0.mk A90
          clear A90
          by_cases c10 : t108 = true
          · subst c10
            have H1 : ((spec_KindPlain.f kj3 a1 (⟨#[47]⟩ : ByteArray)).bind fun t109 => (laws_FnGroupVersionBack.j1 kj3 a0 a1 a2 t109)) = some r := by rw [if_pos rfl] at H; exact H
            clear H
            have H := H1
            clear H1
            replace H := Option.bind_eq_some_iff.mp H
            obtain ⟨t109, A110, H⟩ := H
            replace H : (laws_FnGroupVersionBack.j1 kj3 a0 a1 a2 t109) = some r := H
            have A11 := Aside0.mk A110
            clear A110
            have H' := Aside0.mk H
            clear H
            go_wp2_with (first | ((with_reducible refine gate_callee (f := 13) rfl ?_); refine goesL_ (some 25) rfl rfl Try.func13 (by kernel_rfl) rfl #[.string a0, .string (⟨#[47]⟩ : ByteArray)] rfl (by (try simp only [List.map_toArray, List.map_cons, List.map_nil]); first | done | rfl | (simp only [List.length_drop, List.length_take]; rfl)) ?_; (with_reducible refine (spec_KindPlain.calls kj3 a0 (⟨#[47]⟩ : ByteArray) true _ A9.out).mono ?_); rintro e w' ⟨rfl, ⟨nd, rfl⟩⟩; refine ⟨_, rfl, ?_⟩) | (go_at_call 13; (with_reducible refine (spec_KindPlain.calls kj3 a1 (⟨#[47]⟩ : ByteArray) t109 _ A11.out).mono ?_); rintro e w' ⟨rfl, ⟨nd, rfl⟩⟩))
            go_meet
            case rel => exact ⟨_, (t109), (by first | rfl | (simp; done) | (simp [*]; done)), H', ⟨by have := HJ3.out; first | omega | exact Nat.le_refl _⟩, ⟨by repeat (first | (with_reducible first | exact HB.out | apply below_alloc | apply pw_below_drewN | apply below_drew1) | exact HB.out)⟩⟩
          · replace c10 := Bool.eq_false_iff.mpr c10
            subst c10
            have H1 : (laws_FnGroupVersionBack.j1 kj3 a0 a1 a2 false) = some r := by rw [if_neg (show ¬ (false = true) by decide)] at H; exact H
            clear H
            have H := H1
            clear H1
            have H' := Aside0.mk H
            clear H
            go_wp2_with (first | ((with_reducible refine gate_callee (f := 13) rfl ?_); refine goesL_ (some 25) rfl rfl Try.func13 (by kernel_rfl) rfl #[.string a0, .string (⟨#[47]⟩ : ByteArray)] rfl (by (try simp only [List.map_toArray, List.map_cons, List.map_nil]); first | done | rfl | (simp only [List.length_drop, List.length_take]; rfl)) ?_; (with_reducible refine (spec_KindPlain.calls kj3 a0 (⟨#[47]⟩ : ByteArray) false _ A9.out).mono ?_); rintro e w' ⟨rfl, ⟨nd, rfl⟩⟩; refine ⟨_, rfl, ?_⟩))
            go_meet
            case rel => exact ⟨_, (false), (by first | rfl | (simp; done) | (simp [*]; done)), H', ⟨by have := HJ3.out; first | omega | exact Nat.le_refl _⟩, ⟨by repeat (first | (with_reducible first | exact HB.out | apply below_alloc | apply pw_below_drewN | apply below_drew1) | exact HB.out)⟩⟩
        case rest =>
          clear HC8
          try clear c1
          try clear p2
          try clear c5
          try clear c5b0
          try clear c5b1
          try clear c6
          try clear c6b0
          try clear c6b1
          try clear c7
          try clear c10
          try clear p2
          obtain ⟨kq, x29_7, rfl, HA, HJ7, HB⟩ := hcut
          cases kq with
          | zero => exact absurd HA.out (by simp [laws_FnGroupVersionBack.j1])
          | succ kj7 =>
            have H := HA.out
            clear HA
            simp only [laws_FnGroupVersionBack.j1] at H
            have HC12 := Aside0.mk H
            clear H
            go_upto_if 29 with (fail)
            go_cut [] (fun wc => ∃ (kq : Nat), Aside0 (laws_FnGroupVersionBack.j2 kq a2 = some r) ∧ Aside0 (kq ≤ kj7) ∧ Aside0 (Below w.heap.size w wc))
            case first =>
              have H := HC12.out
              clear HC12
              by_cases c13 : x29_7 = true
              · subst c13
                have H1 : ((impl_GroupVersionText.f a0 a1).bind fun t110 => ((impl_GroupVersionParse.f kj7 t110).bind fun bt111 => (if bt111.2.2.2 = true then (if (!(bt111.1.toList == a0.toList) || (!(bt111.2.1.toList == a1.toList) || (!(bt111.2.2.1.toList == ([] : List UInt8))))) = true then (some false) else (laws_FnGroupVersionBack.j2 kj7 a2)) else (some false)))) = some r := by rw [if_pos rfl] at H; exact H
                clear H
                have H := H1
                clear H1
                replace H := Option.bind_eq_some_iff.mp H
                obtain ⟨t110, A140, H⟩ := H
                replace H : ((impl_GroupVersionParse.f kj7 t110).bind fun bt111 => (if bt111.2.2.2 = true then (if (!(bt111.1.toList == a0.toList) || (!(bt111.2.1.toList == a1.toList) || (!(bt111.2.2.1.toList == ([] : List UInt8))))) = true then (some false) else (laws_FnGroupVersionBack.j2 kj7 a2)) else (some false))) = some r := H
                have A14 := Aside0.mk A140
                clear A140
                replace H := Option.bind_eq_some_iff.mp H
                obtain ⟨⟨t111, t112, t113, t114⟩, A150, H⟩ := H
                replace H : (if t114 = true then (if (!(t111.toList == a0.toList) || (!(t112.toList == a1.toList) || (!(t113.toList == ([] : List UInt8))))) = true then (some false) else (laws_FnGroupVersionBack.j2 kj7 a2)) else (some false)) = some r := H
                have A15 := Aside0.mk A150
                clear A150
                by_cases c16 : t114 = true
                · subst c16
                  have H1 : (if (!(t111.toList == a0.toList) || (!(t112.toList == a1.toList) || (!(t113.toList == ([] : List UInt8))))) = true then (some false) else (laws_FnGroupVersionBack.j2 kj7 a2)) = some r := by rw [if_pos rfl] at H; exact H
                  clear H
                  have H := H1
                  clear H1
                  by_cases c17 : (!(t111.toList == a0.toList) || (!(t112.toList == a1.toList) || (!(t113.toList == ([] : List UInt8))))) = true
                  · rw [if_pos c17] at H
                    have c17b0 : (!(t111.toList == a0.toList) || (!(t112.toList == a1.toList) || (!(t113.toList == ([] : List UInt8))))) = true := c17
                    (try (have c17b1 : (!(t111.toList == a0.toList) || (!(t112.toList == a1.toList) || (!(t113.toList.isEmpty)))) = true := by simpa using c17))
                    clear c17
                    (first | rw [c17b0] | (simp only [i64_w, i32_w]; rw [c17b0]) | skip)
                    obtain rfl := Option.some.inj H
                    go_wp2_with (first | ((with_reducible refine gate_callee (f := 21) rfl ?_); refine goesL_ (some 33) rfl rfl Try.func21 (by kernel_rfl) rfl #[.string a0, .string a1] rfl (by (try simp only [List.map_toArray, List.map_cons, List.map_nil]); first | done | rfl | (simp only [List.length_drop, List.length_take]; rfl)) ?_; (with_reducible refine (impl_GroupVersionText.calls a0 a1 t110 _ A14.out).mono ?_); rintro e w18 ⟨rfl, hb⟩; refine ⟨_, rfl, ?_⟩; have n0_ := Aside0.mk (below_step (by repeat (first | (with_reducible first | exact HB.out | apply below_alloc | apply pw_below_drewN | apply below_drew1) | exact HB.out)) hb); clear HB; have HB := n0_; clear n0_; (try clear hb); (try clear hb2); (try clear hk); (try clear hi)) | ((with_reducible refine gate_callee (f := 20) rfl ?_); refine goesL_ (some 34) rfl rfl Try.func20 (by kernel_rfl) rfl #[.string t110] rfl (by (try simp only [List.map_toArray, List.map_cons, List.map_nil]); first | done | rfl | (simp only [List.length_drop, List.length_take]; rfl)) ?_; (with_reducible refine (impl_GroupVersionParse.calls kj7 t110 t111 t112 t113 true _ A15.out).mono ?_); rintro e w19 ⟨rfl, hb⟩; refine ⟨_, rfl, ?_⟩; have n0_ := Aside0.mk (below_step (by repeat (first | (with_reducible first | exact HB.out | apply below_alloc | apply pw_below_drewN | apply below_drew1) | exact HB.out)) hb); clear HB; have HB := n0_; clear n0_; (try clear hb); (try clear hb2); (try clear hk); (try clear hi)) | ((with_reducible refine gate_dst (N := 7) rfl ?_); (try (refine gate_guard (by rfl) ?_; dsimp only)); refine box_event ?hg (N := 7) ?hd (cs := #[.string (⟨#[]⟩ : ByteArray), .string (⟨#[]⟩ : ByteArray), .string (⟨#[]⟩ : ByteArray)]) (t := 26) ?hr ?_; (case hd => rfl); (case hg => rfl); (case hr => first | (go_simp; done) | (go_simp; rfl)); intro gb115 hg w20 hbox hb; have n0_ := Aside0.mk (below_step (by repeat (first | (with_reducible first | exact HB.out | apply below_alloc | apply pw_below_drewN | apply below_drew1) | exact HB.out)) hb); have n1_ := Aside0.mk (hbox); have n2_ := Aside0.mk ((by rw [hg]; exact (below_size (by repeat (first | (with_reducible first | exact HB.out | apply below_alloc | apply pw_below_drewN | apply below_drew1) | exact HB.out))) : w.heap.size ≤ gb115)); have n3_ := Aside0.mk ((by rw [hg]; exact (below_size (by repeat (first | (with_reducible first | exact HB.out | apply below_alloc | apply pw_below_drewN | apply below_drew1) | exact HB.out))) : w.heap.size ≤ gb115)); clear HB; have HB := n0_; have BK115 := n1_; have GW115 := n2_; have GE115 := n3_; clear n0_ n1_ n2_ n3_; clear hb hbox hg; have hcz21_0 : w20.cell? ⟨gb115, 0, none⟩ = some (.string (⟨#[]⟩ : ByteArray)) := (blk_cell BK115.out 0).trans rfl; have hcz21_1 : w20.cell? ⟨gb115, 1, none⟩ = some (.string (⟨#[]⟩ : ByteArray)) := (blk_cell BK115.out 1).trans rfl; have hcz21_2 : w20.cell? ⟨gb115, 2, none⟩ = some (.string (⟨#[]⟩ : ByteArray)) := (blk_cell BK115.out 2).trans rfl; have hfz21_0 := blk_frozen BK115.out 0; have hfz21_1 := blk_frozen BK115.out 1; have hfz21_2 := blk_frozen BK115.out 2))
                    go_ret
                    exact ⟨by first | rfl | (simp [errW_none, errW_some] <;> rfl) | (simp [*, errW_none, errW_some] <;> rfl), by repeat (first | (with_reducible first | exact HB.out | apply below_alloc | apply pw_below_drewN | apply below_drew1 | refine below_set ?_ GE115.out) | exact HB.out)⟩
                  · rw [if_neg c17] at H
                    have c17b0 : (!(t111.toList == a0.toList) || (!(t112.toList == a1.toList) || (!(t113.toList == ([] : List UInt8))))) = false := by simpa using c17
                    (try (have c17b1 : (!(t111.toList == a0.toList) || (!(t112.toList == a1.toList) || (!(t113.toList.isEmpty)))) = false := by simpa using c17))
                    clear c17
                    (first | rw [c17b0] | (simp only [i64_w, i32_w]; rw [c17b0]) | skip)
                    have H' := Aside0.mk H
                    clear H
                    go_wp2_with (first | ((with_reducible refine gate_callee (f := 21) rfl ?_); refine goesL_ (some 33) rfl rfl Try.func21 (by kernel_rfl) rfl #[.string a0, .string a1] rfl (by (try simp only [List.map_toArray, List.map_cons, List.map_nil]); first | done | rfl | (simp only [List.length_drop, List.length_take]; rfl)) ?_; (with_reducible refine (impl_GroupVersionText.calls a0 a1 t110 _ A14.out).mono ?_); rintro e w22 ⟨rfl, hb⟩; refine ⟨_, rfl, ?_⟩; have n0_ := Aside0.mk (below_step (by repeat (first | (with_reducible first | exact HB.out | apply below_alloc | apply pw_below_drewN | apply below_drew1) | exact HB.out)) hb); clear HB; have HB := n0_; clear n0_; (try clear hb); (try clear hb2); (try clear hk); (try clear hi)) | ((with_reducible refine gate_callee (f := 20) rfl ?_); refine goesL_ (some 34) rfl rfl Try.func20 (by kernel_rfl) rfl #[.string t110] rfl (by (try simp only [List.map_toArray, List.map_cons, List.map_nil]); first | done | rfl | (simp only [List.length_drop, List.length_take]; rfl)) ?_; (with_reducible refine (impl_GroupVersionParse.calls kj7 t110 t111 t112 t113 true _ A15.out).mono ?_); rintro e w23 ⟨rfl, hb⟩; refine ⟨_, rfl, ?_⟩; have n0_ := Aside0.mk (below_step (by repeat (first | (with_reducible first | exact HB.out | apply below_alloc | apply pw_below_drewN | apply below_drew1) | exact HB.out)) hb); clear HB; have HB := n0_; clear n0_; (try clear hb); (try clear hb2); (try clear hk); (try clear hi)) | ((with_reducible refine gate_dst (N := 7) rfl ?_); (try (refine gate_guard (by rfl) ?_; dsimp only)); refine box_event ?hg (N := 7) ?hd (cs := #[.string (⟨#[]⟩ : ByteArray), .string (⟨#[]⟩ : ByteArray), .string (⟨#[]⟩ : ByteArray)]) (t := 26) ?hr ?_; (case hd => rfl); (case hg => rfl); (case hr => first | (go_simp; done) | (go_simp; rfl)); intro gb115 hg w24 hbox hb; have n0_ := Aside0.mk (below_step (by repeat (first | (with_reducible first | exact HB.out | apply below_alloc | apply pw_below_drewN | apply below_drew1) | exact HB.out)) hb); have n1_ := Aside0.mk (hbox); have n2_ := Aside0.mk ((by rw [hg]; exact (below_size (by repeat (first | (with_reducible first | exact HB.out | apply below_alloc | apply pw_below_drewN | apply below_drew1) | exact HB.out))) : w.heap.size ≤ gb115)); have n3_ := Aside0.mk ((by rw [hg]; exact (below_size (by repeat (first | (with_reducible first | exact HB.out | apply below_alloc | apply pw_below_drewN | apply below_drew1) | exact HB.out))) : w.heap.size ≤ gb115)); clear HB; have HB := n0_; have BK115 := n1_; have GW115 := n2_; have GE115 := n3_; clear n0_ n1_ n2_ n3_; clear hb hbox hg; have hcz25_0 : w24.cell? ⟨gb115, 0, none⟩ = some (.string (⟨#[]⟩ : ByteArray)) := (blk_cell BK115.out 0).trans rfl; have hcz25_1 : w24.cell? ⟨gb115, 1, none⟩ = some (.string (⟨#[]⟩ : ByteArray)) := (blk_cell BK115.out 1).trans rfl; have hcz25_2 : w24.cell? ⟨gb115, 2, none⟩ = some (.string (⟨#[]⟩ : ByteArray)) := (blk_cell BK115.out 2).trans rfl; have hfz25_0 := blk_frozen BK115.out 0; have hfz25_1 := blk_frozen BK115.out 1; have hfz25_2 := blk_frozen BK115.out 2))
                    go_meet
                    case rel => exact ⟨_, H', ⟨by have := HJ3.out; have := HJ7.out; first | omega | exact Nat.le_refl _⟩, ⟨by repeat (first | (with_reducible first | exact HB.out | apply below_alloc | apply pw_below_drewN | apply below_drew1 | refine below_set ?_ GE115.out) | exact HB.out)⟩⟩
                · replace c16 := Bool.eq_false_iff.mpr c16
                  subst c16
                  have H1 : (some false) = some r := by rw [if_neg (show ¬ (false = true) by decide)] at H; exact H
                  clear H
                  have H := H1
                  clear H1
                  obtain rfl := Option.some.inj H
                  go_wp2_with (first | ((with_reducible refine gate_callee (f := 21) rfl ?_); refine goesL_ (some 33) rfl rfl Try.func21 (by kernel_rfl) rfl #[.string a0, .string a1] rfl (by (try simp only [List.map_toArray, List.map_cons, List.map_nil]); first | done | rfl | (simp only [List.length_drop, List.length_take]; rfl)) ?_; (with_reducible refine (impl_GroupVersionText.calls a0 a1 t110 _ A14.out).mono ?_); rintro e w26 ⟨rfl, hb⟩; refine ⟨_, rfl, ?_⟩; have n0_ := Aside0.mk (below_step (by repeat (first | (with_reducible first | exact HB.out | apply below_alloc | apply pw_below_drewN | apply below_drew1) | exact HB.out)) hb); clear HB; have HB := n0_; clear n0_; (try clear hb); (try clear hb2); (try clear hk); (try clear hi)) | ((with_reducible refine gate_callee (f := 20) rfl ?_); refine goesL_ (some 34) rfl rfl Try.func20 (by kernel_rfl) rfl #[.string t110] rfl (by (try simp only [List.map_toArray, List.map_cons, List.map_nil]); first | done | rfl | (simp only [List.length_drop, List.length_take]; rfl)) ?_; (with_reducible refine (impl_GroupVersionParse.calls kj7 t110 t111 t112 t113 false _ A15.out).mono ?_); rintro e w27 ⟨rfl, hb⟩; refine ⟨_, rfl, ?_⟩; have n0_ := Aside0.mk (below_step (by repeat (first | (with_reducible first | exact HB.out | apply below_alloc | apply pw_below_drewN | apply below_drew1) | exact HB.out)) hb); clear HB; have HB := n0_; clear n0_; (try clear hb); (try clear hb2); (try clear hk); (try clear hi)) | ((with_reducible refine gate_dst (N := 7) rfl ?_); (try (refine gate_guard (by rfl) ?_; dsimp only)); refine box_event ?hg (N := 7) ?hd (cs := #[.string (⟨#[]⟩ : ByteArray), .string (⟨#[]⟩ : ByteArray), .string (⟨#[]⟩ : ByteArray)]) (t := 26) ?hr ?_; (case hd => rfl); (case hg => rfl); (case hr => first | (go_simp; done) | (go_simp; rfl)); intro gb115 hg w28 hbox hb; have n0_ := Aside0.mk (below_step (by repeat (first | (with_reducible first | exact HB.out | apply below_alloc | apply pw_below_drewN | apply below_drew1) | exact HB.out)) hb); have n1_ := Aside0.mk (hbox); have n2_ := Aside0.mk ((by rw [hg]; exact (below_size (by repeat (first | (with_reducible first | exact HB.out | apply below_alloc | apply pw_below_drewN | apply below_drew1) | exact HB.out))) : w.heap.size ≤ gb115)); have n3_ := Aside0.mk ((by rw [hg]; exact (below_size (by repeat (first | (with_reducible first | exact HB.out | apply below_alloc | apply pw_below_drewN | apply below_drew1) | exact HB.out))) : w.heap.size ≤ gb115)); clear HB; have HB := n0_; have BK115 := n1_; have GW115 := n2_; have GE115 := n3_; clear n0_ n1_ n2_ n3_; clear hb hbox hg; have hcz29_0 : w28.cell? ⟨gb115, 0, none⟩ = some (.string (⟨#[]⟩ : ByteArray)) := (blk_cell BK115.out 0).trans rfl; have hcz29_1 : w28.cell? ⟨gb115, 1, none⟩ = some (.string (⟨#[]⟩ : ByteArray)) := (blk_cell BK115.out 1).trans rfl; have hcz29_2 : w28.cell? ⟨gb115, 2, none⟩ = some (.string (⟨#[]⟩ : ByteArray)) := (blk_cell BK115.out 2).trans rfl; have hfz29_0 := blk_frozen BK115.out 0; have hfz29_1 := blk_frozen BK115.out 1; have hfz29_2 := blk_frozen BK115.out 2))
                  go_ret
                  exact ⟨by first | rfl | (simp [errW_none, errW_some] <;> rfl) | (simp [*, errW_none, errW_some] <;> rfl), by repeat (first | (with_reducible first | exact HB.out | apply below_alloc | apply pw_below_drewN | apply below_drew1 | refine below_set ?_ GE115.out) | exact HB.out)⟩
              · replace c13 := Bool.eq_false_iff.mpr c13
                subst c13
                have H1 : (laws_FnGroupVersionBack.j2 kj7 a2) = some r := by rw [if_neg (show ¬ (false = true) by decide)] at H; exact H
                clear H
                have H := H1
                clear H1
                have H' := Aside0.mk H
                clear H
                go_wp2
                go_meet
                case rel => exact ⟨_, H', ⟨by have := HJ3.out; have := HJ7.out; first | omega | exact Nat.le_refl _⟩, ⟨by repeat (first | (with_reducible first | exact HB.out | apply below_alloc | apply pw_below_drewN | apply below_drew1) | exact HB.out)⟩⟩
            case rest =>
              clear HC12
              try clear c1
              try clear c2
              try clear p2
              try clear c5
              try clear c5b0
              try clear c5b1
              try clear c6
              try clear c6b0
              try clear c6b1
              try clear c7
              try clear c10
              try clear c13
              try clear c16
              try clear c17
              try clear c17b0
              try clear c17b1
              try clear c20
              try clear c21
              try clear hcz21_0
              try clear hcz21_1
              try clear hcz21_2
              try clear hcz25_0
              try clear hcz25_1
              try clear hcz25_2
              try clear hcz29_0
              try clear hcz29_1
              try clear hcz29_2
              try clear hfz21_0
              try clear hfz21_1
              try clear hfz21_2
              try clear hfz25_0
              try clear hfz25_1
              try clear hfz25_2
              try clear hfz29_0
              try clear hfz29_1
              try clear hfz29_2
              try clear p2
              obtain ⟨kq, HA, HJ11, HB⟩ := hcut
              cases kq with
              | zero => exact absurd HA.out (by simp [laws_FnGroupVersionBack.j2])
              | succ kj11 =>
                have H := HA.out
                clear HA
                simp only [laws_FnGroupVersionBack.j2] at H
                replace H := Option.bind_eq_some_iff.mp H
                obtain ⟨⟨t116, t117, t118, t119⟩, A300, H⟩ := H
                replace H : (if t119 = true then (if a2.toList = ([] : List UInt8) then ((impl_GroupVersionText.f t116 t117).bind fun t121 => (some (t121.toList == a2.toList))) else (if 0 < (a2.size : Int) then (if (bt a2 0) = 47 then (some true) else ((impl_GroupVersionText.f t116 t117).bind fun t122 => (some (t122.toList == a2.toList)))) else (none))) else (some true)) = some r := H
                have A30 := Aside0.mk A300
                clear A300
                by_cases c31 : t119 = true
                · subst c31
                  have H1 : (if a2.toList = ([] : List UInt8) then ((impl_GroupVersionText.f t116 t117).bind fun t121 => (some (t121.toList == a2.toList))) else (if 0 < (a2.size : Int) then (if (bt a2 0) = 47 then (some true) else ((impl_GroupVersionText.f t116 t117).bind fun t122 => (some (t122.toList == a2.toList)))) else (none))) = some r := by rw [if_pos rfl] at H; exact H
                  clear H
                  have H := H1
                  clear H1
                  by_cases c32 : a2.toList = ([] : List UInt8)
                  · rw [if_pos c32] at H
                    have c32b0 : (a2.toList == ([] : List UInt8)) = true := beq_iff_eq.mpr c32
                    have c32b1 : (a2.toList != ([] : List UInt8)) = false := bne_eq_false_iff_eq.mpr c32
                    clear c32
                    replace H := Option.bind_eq_some_iff.mp H
                    obtain ⟨t121, A330, H⟩ := H
                    replace H : (some (t121.toList == a2.toList)) = some r := H
                    have A33 := Aside0.mk A330
                    clear A330
                    obtain rfl := Option.some.inj H
                    go_wp2_with (first | ((with_reducible refine gate_callee (f := 20) rfl ?_); refine goesL_ (some 48) rfl rfl Try.func20 (by kernel_rfl) rfl #[.string a2] rfl (by (try simp only [List.map_toArray, List.map_cons, List.map_nil]); first | done | rfl | (simp only [List.length_drop, List.length_take]; rfl)) ?_; (with_reducible refine (impl_GroupVersionParse.calls kj11 a2 t116 t117 t118 true _ A30.out).mono ?_); rintro e w34 ⟨rfl, hb⟩; refine ⟨_, rfl, ?_⟩; have n0_ := Aside0.mk (below_step (by repeat (first | (with_reducible first | exact HB.out | apply below_alloc | apply pw_below_drewN | apply below_drew1) | exact HB.out)) hb); clear HB; have HB := n0_; clear n0_; (try clear hb); (try clear hb2); (try clear hk); (try clear hi)) | ((with_reducible refine gate_dst (N := 9) rfl ?_); (try (refine gate_guard (by rfl) ?_; dsimp only)); refine box_event ?hg (N := 9) ?hd (cs := #[.string (⟨#[]⟩ : ByteArray), .string (⟨#[]⟩ : ByteArray), .string (⟨#[]⟩ : ByteArray)]) (t := 26) ?hr ?_; (case hd => rfl); (case hg => rfl); (case hr => first | (go_simp; done) | (go_simp; rfl)); intro gb120 hg w35 hbox hb; have n0_ := Aside0.mk (below_step (by repeat (first | (with_reducible first | exact HB.out | apply below_alloc | apply pw_below_drewN | apply below_drew1) | exact HB.out)) hb); have n1_ := Aside0.mk (hbox); have n2_ := Aside0.mk ((by rw [hg]; exact (below_size (by repeat (first | (with_reducible first | exact HB.out | apply below_alloc | apply pw_below_drewN | apply below_drew1) | exact HB.out))) : w.heap.size ≤ gb120)); have n3_ := Aside0.mk ((by rw [hg]; exact (below_size (by repeat (first | (with_reducible first | exact HB.out | apply below_alloc | apply pw_below_drewN | apply below_drew1) | exact HB.out))) : w.heap.size ≤ gb120)); clear HB; have HB := n0_; have BK120 := n1_; have GW120 := n2_; have GE120 := n3_; clear n0_ n1_ n2_ n3_; clear hb hbox hg; have hcz36_0 : w35.cell? ⟨gb120, 0, none⟩ = some (.string (⟨#[]⟩ : ByteArray)) := (blk_cell BK120.out 0).trans rfl; have hcz36_1 : w35.cell? ⟨gb120, 1, none⟩ = some (.string (⟨#[]⟩ : ByteArray)) := (blk_cell BK120.out 1).trans rfl; have hcz36_2 : w35.cell? ⟨gb120, 2, none⟩ = some (.string (⟨#[]⟩ : ByteArray)) := (blk_cell BK120.out 2).trans rfl; have hfz36_0 := blk_frozen BK120.out 0; have hfz36_1 := blk_frozen BK120.out 1; have hfz36_2 := blk_frozen BK120.out 2) | ((with_reducible refine gate_callee (f := 21) rfl ?_); refine goesL_ (some 66) rfl rfl Try.func21 (by kernel_rfl) rfl #[.string t116, .string t117] rfl (by (try simp only [List.map_toArray, List.map_cons, List.map_nil]); first | done | rfl | (simp only [List.length_drop, List.length_take]; rfl)) ?_; (with_reducible refine (impl_GroupVersionText.calls t116 t117 t121 _ A33.out).mono ?_); rintro e w37 ⟨rfl, hb⟩; refine ⟨_, rfl, ?_⟩; have n0_ := Aside0.mk (blk_below (g := gb120) (o := .cells #[.string t116, .string t117, .string t118] 26 (0, 0)) (by (with_reducible repeat (first | refine blk_drewN ?_ _ | refine blk_drew ?_ | refine blk_alloc ?_ _)); refine blk_put (cs := #[.string t116, .string t117, .string (⟨#[]⟩ : ByteArray)]) ?_ 2 _ rfl; (with_reducible repeat (first | refine blk_drewN ?_ _ | refine blk_drew ?_ | refine blk_alloc ?_ _)); refine blk_put (cs := #[.string t116, .string (⟨#[]⟩ : ByteArray), .string (⟨#[]⟩ : ByteArray)]) ?_ 1 _ rfl; (with_reducible repeat (first | refine blk_drewN ?_ _ | refine blk_drew ?_ | refine blk_alloc ?_ _)); refine blk_put (cs := #[.string (⟨#[]⟩ : ByteArray), .string (⟨#[]⟩ : ByteArray), .string (⟨#[]⟩ : ByteArray)]) ?_ 0 _ rfl; (with_reducible repeat (first | refine blk_drewN ?_ _ | refine blk_drew ?_ | refine blk_alloc ?_ _)); exact BK120.out) hb); have n1_ := Aside0.mk (below_step (by repeat (first | (with_reducible first | exact HB.out | apply below_alloc | apply pw_below_drewN | apply below_drew1 | refine below_set ?_ GE120.out) | exact HB.out)) hb); clear BK120; clear HB; have BK120 := n0_; have HB := n1_; clear n0_ n1_; (try clear hb); (try clear hb2); (try clear hk); (try clear hi)))
                    go_ret
                    exact ⟨by first | rfl | (simp [errW_none, errW_some] <;> rfl) | (simp [*, errW_none, errW_some] <;> rfl), by repeat (first | (with_reducible first | exact HB.out | apply below_alloc | apply pw_below_drewN | apply below_drew1 | refine below_set ?_ GE120.out) | exact HB.out)⟩
                  · rw [if_neg c32] at H
                    have c32b0 : (a2.toList == ([] : List UInt8)) = false := beq_eq_false_iff_ne.mpr c32
                    have c32b1 : (a2.toList != ([] : List UInt8)) = true := bne_iff_ne.mpr c32
                    by_cases c38 : 0 < (a2.size : Int)
                    · rw [if_pos c38] at H
                      have c38b0 : decide (0 < (a2.size : Int)) = true := decide_eq_true c38
                      have c38b1 : decide (0 < a2.size) = true := decide_eq_true (by omega)
                      clear c38
                      by_cases c40 : (bt a2 0) = 47
                      · rw [if_pos c40] at H
                        have c40b0 : ((bt a2 0) == 47) = true := beq_iff_eq.mpr c40
                        have c40b1 : ((bt a2 0) != 47) = false := bne_eq_false_iff_eq.mpr c40
                        clear c40
                        obtain rfl := Option.some.inj H
                        go_wp2_with (first | ((with_reducible refine gate_callee (f := 20) rfl ?_); refine goesL_ (some 48) rfl rfl Try.func20 (by kernel_rfl) rfl #[.string a2] rfl (by (try simp only [List.map_toArray, List.map_cons, List.map_nil]); first | done | rfl | (simp only [List.length_drop, List.length_take]; rfl)) ?_; (with_reducible refine (impl_GroupVersionParse.calls kj11 a2 t116 t117 t118 true _ A30.out).mono ?_); rintro e w41 ⟨rfl, hb⟩; refine ⟨_, rfl, ?_⟩; have n0_ := Aside0.mk (below_step (by repeat (first | (with_reducible first | exact HB.out | apply below_alloc | apply pw_below_drewN | apply below_drew1) | exact HB.out)) hb); clear HB; have HB := n0_; clear n0_; (try clear hb); (try clear hb2); (try clear hk); (try clear hi)) | ((with_reducible refine gate_dst (N := 9) rfl ?_); (try (refine gate_guard (by rfl) ?_; dsimp only)); refine box_event ?hg (N := 9) ?hd (cs := #[.string (⟨#[]⟩ : ByteArray), .string (⟨#[]⟩ : ByteArray), .string (⟨#[]⟩ : ByteArray)]) (t := 26) ?hr ?_; (case hd => rfl); (case hg => rfl); (case hr => first | (go_simp; done) | (go_simp; rfl)); intro gb120 hg w42 hbox hb; have n0_ := Aside0.mk (below_step (by repeat (first | (with_reducible first | exact HB.out | apply below_alloc | apply pw_below_drewN | apply below_drew1) | exact HB.out)) hb); have n1_ := Aside0.mk (hbox); have n2_ := Aside0.mk ((by rw [hg]; exact (below_size (by repeat (first | (with_reducible first | exact HB.out | apply below_alloc | apply pw_below_drewN | apply below_drew1) | exact HB.out))) : w.heap.size ≤ gb120)); have n3_ := Aside0.mk ((by rw [hg]; exact (below_size (by repeat (first | (with_reducible first | exact HB.out | apply below_alloc | apply pw_below_drewN | apply below_drew1) | exact HB.out))) : w.heap.size ≤ gb120)); clear HB; have HB := n0_; have BK120 := n1_; have GW120 := n2_; have GE120 := n3_; clear n0_ n1_ n2_ n3_; clear hb hbox hg; have hcz43_0 : w42.cell? ⟨gb120, 0, none⟩ = some (.string (⟨#[]⟩ : ByteArray)) := (blk_cell BK120.out 0).trans rfl; have hcz43_1 : w42.cell? ⟨gb120, 1, none⟩ = some (.string (⟨#[]⟩ : ByteArray)) := (blk_cell BK120.out 1).trans rfl; have hcz43_2 : w42.cell? ⟨gb120, 2, none⟩ = some (.string (⟨#[]⟩ : ByteArray)) := (blk_cell BK120.out 2).trans rfl; have hfz43_0 := blk_frozen BK120.out 0; have hfz43_1 := blk_frozen BK120.out 1; have hfz43_2 := blk_frozen BK120.out 2; have p39 : 0 ≤ (0 : Int) := (by omega); have q39 : 0 < a2.size := (by have : (0 : Int) < (a2.size : Int) := of_decide_eq_true (by first | (with_reducible assumption) | assumption); omega); have hx39 : ∀ h : 0 < a2.size, ((a2[0]'h).toNat : Int) = bt a2 0 := bt_at a2 0; clear p39; have qi39 : (0 < (a2.size : Int)) = True := eq_true (of_decide_eq_true (by first | (with_reducible assumption) | assumption)); replace q39 := eq_true q39))
                        go_ret
                        exact ⟨by first | rfl | (simp [errW_none, errW_some] <;> rfl) | (simp [*, errW_none, errW_some] <;> rfl), by repeat (first | (with_reducible first | exact HB.out | apply below_alloc | apply pw_below_drewN | apply below_drew1 | refine below_set ?_ GE120.out) | exact HB.out)⟩
                      · rw [if_neg c40] at H
                        have c40b0 : ((bt a2 0) == 47) = false := beq_eq_false_iff_ne.mpr c40
                        have c40b1 : ((bt a2 0) != 47) = true := bne_iff_ne.mpr c40
                        replace H := Option.bind_eq_some_iff.mp H
                        obtain ⟨t122, A440, H⟩ := H
                        replace H : (some (t122.toList == a2.toList)) = some r := H
                        have A44 := Aside0.mk A440
                        clear A440
                        obtain rfl := Option.some.inj H
                        go_wp2_with (first | ((with_reducible refine gate_callee (f := 20) rfl ?_); refine goesL_ (some 48) rfl rfl Try.func20 (by kernel_rfl) rfl #[.string a2] rfl (by (try simp only [List.map_toArray, List.map_cons, List.map_nil]); first | done | rfl | (simp only [List.length_drop, List.length_take]; rfl)) ?_; (with_reducible refine (impl_GroupVersionParse.calls kj11 a2 t116 t117 t118 true _ A30.out).mono ?_); rintro e w45 ⟨rfl, hb⟩; refine ⟨_, rfl, ?_⟩; have n0_ := Aside0.mk (below_step (by repeat (first | (with_reducible first | exact HB.out | apply below_alloc | apply pw_below_drewN | apply below_drew1) | exact HB.out)) hb); clear HB; have HB := n0_; clear n0_; (try clear hb); (try clear hb2); (try clear hk); (try clear hi)) | ((with_reducible refine gate_dst (N := 9) rfl ?_); (try (refine gate_guard (by rfl) ?_; dsimp only)); refine box_event ?hg (N := 9) ?hd (cs := #[.string (⟨#[]⟩ : ByteArray), .string (⟨#[]⟩ : ByteArray), .string (⟨#[]⟩ : ByteArray)]) (t := 26) ?hr ?_; (case hd => rfl); (case hg => rfl); (case hr => first | (go_simp; done) | (go_simp; rfl)); intro gb120 hg w46 hbox hb; have n0_ := Aside0.mk (below_step (by repeat (first | (with_reducible first | exact HB.out | apply below_alloc | apply pw_below_drewN | apply below_drew1) | exact HB.out)) hb); have n1_ := Aside0.mk (hbox); have n2_ := Aside0.mk ((by rw [hg]; exact (below_size (by repeat (first | (with_reducible first | exact HB.out | apply below_alloc | apply pw_below_drewN | apply below_drew1) | exact HB.out))) : w.heap.size ≤ gb120)); have n3_ := Aside0.mk ((by rw [hg]; exact (below_size (by repeat (first | (with_reducible first | exact HB.out | apply below_alloc | apply pw_below_drewN | apply below_drew1) | exact HB.out))) : w.heap.size ≤ gb120)); clear HB; have HB := n0_; have BK120 := n1_; have GW120 := n2_; have GE120 := n3_; clear n0_ n1_ n2_ n3_; clear hb hbox hg; have hcz47_0 : w46.cell? ⟨gb120, 0, none⟩ = some (.string (⟨#[]⟩ : ByteArray)) := (blk_cell BK120.out 0).trans rfl; have hcz47_1 : w46.cell? ⟨gb120, 1, none⟩ = some (.string (⟨#[]⟩ : ByteArray)) := (blk_cell BK120.out 1).trans rfl; have hcz47_2 : w46.cell? ⟨gb120, 2, none⟩ = some (.string (⟨#[]⟩ : ByteArray)) := (blk_cell BK120.out 2).trans rfl; have hfz47_0 := blk_frozen BK120.out 0; have hfz47_1 := blk_frozen BK120.out 1; have hfz47_2 := blk_frozen BK120.out 2; have p39 : 0 ≤ (0 : Int) := (by omega); have q39 : 0 < a2.size := (by have : (0 : Int) < (a2.size : Int) := of_decide_eq_true (by first | (with_reducible assumption) | assumption); omega); have hx39 : ∀ h : 0 < a2.size, ((a2[0]'h).toNat : Int) = bt a2 0 := bt_at a2 0; clear p39; have qi39 : (0 < (a2.size : Int)) = True := eq_true (of_decide_eq_true (by first | (with_reducible assumption) | assumption)); replace q39 := eq_true q39) | ((with_reducible refine gate_callee (f := 21) rfl ?_); refine goesL_ (some 66) rfl rfl Try.func21 (by kernel_rfl) rfl #[.string t116, .string t117] rfl (by (try simp only [List.map_toArray, List.map_cons, List.map_nil]); first | done | rfl | (simp only [List.length_drop, List.length_take]; rfl)) ?_; (with_reducible refine (impl_GroupVersionText.calls t116 t117 t122 _ A44.out).mono ?_); rintro e w48 ⟨rfl, hb⟩; refine ⟨_, rfl, ?_⟩; have n0_ := Aside0.mk (blk_below (g := gb120) (o := .cells #[.string t116, .string t117, .string t118] 26 (0, 0)) (by (with_reducible repeat (first | refine blk_drewN ?_ _ | refine blk_drew ?_ | refine blk_alloc ?_ _)); refine blk_put (cs := #[.string t116, .string t117, .string (⟨#[]⟩ : ByteArray)]) ?_ 2 _ rfl; (with_reducible repeat (first | refine blk_drewN ?_ _ | refine blk_drew ?_ | refine blk_alloc ?_ _)); refine blk_put (cs := #[.string t116, .string (⟨#[]⟩ : ByteArray), .string (⟨#[]⟩ : ByteArray)]) ?_ 1 _ rfl; (with_reducible repeat (first | refine blk_drewN ?_ _ | refine blk_drew ?_ | refine blk_alloc ?_ _)); refine blk_put (cs := #[.string (⟨#[]⟩ : ByteArray), .string (⟨#[]⟩ : ByteArray), .string (⟨#[]⟩ : ByteArray)]) ?_ 0 _ rfl; (with_reducible repeat (first | refine blk_drewN ?_ _ | refine blk_drew ?_ | refine blk_alloc ?_ _)); exact BK120.out) hb); have n1_ := Aside0.mk (below_step (by repeat (first | (with_reducible first | exact HB.out | apply below_alloc | apply pw_below_drewN | apply below_drew1 | refine below_set ?_ GE120.out) | exact HB.out)) hb); clear BK120; clear HB; have BK120 := n0_; have HB := n1_; clear n0_ n1_; (try clear hb); (try clear hb2); (try clear hk); (try clear hi)))
                        go_ret
                        exact ⟨by first | rfl | (simp [errW_none, errW_some] <;> rfl) | (simp [*, errW_none, errW_some] <;> rfl), by repeat (first | (with_reducible first | exact HB.out | apply below_alloc | apply pw_below_drewN | apply below_drew1 | refine below_set ?_ GE120.out) | exact HB.out)⟩
                    · rw [if_neg c38] at H
                      exact absurd H (by simp)
                · replace c31 := Bool.eq_false_iff.mpr c31
                  subst c31
                  have H1 : (some true) = some r := by rw [if_neg (show ¬ (false = true) by decide)] at H; exact H
                  clear H
                  have H := H1
                  clear H1
                  obtain rfl := Option.some.inj H
                  go_wp2_with (first | ((with_reducible refine gate_callee (f := 20) rfl ?_); refine goesL_ (some 48) rfl rfl Try.func20 (by kernel_rfl) rfl #[.string a2] rfl (by (try simp only [List.map_toArray, List.map_cons, List.map_nil]); first | done | rfl | (simp only [List.length_drop, List.length_take]; rfl)) ?_; (with_reducible refine (impl_GroupVersionParse.calls kj11 a2 t116 t117 t118 false _ A30.out).mono ?_); rintro e w49 ⟨rfl, hb⟩; refine ⟨_, rfl, ?_⟩; have n0_ := Aside0.mk (below_step (by repeat (first | (with_reducible first | exact HB.out | apply below_alloc | apply pw_below_drewN | apply below_drew1) | exact HB.out)) hb); clear HB; have HB := n0_; clear n0_; (try clear hb); (try clear hb2); (try clear hk); (try clear hi)) | ((with_reducible refine gate_dst (N := 9) rfl ?_); (try (refine gate_guard (by rfl) ?_; dsimp only)); refine box_event ?hg (N := 9) ?hd (cs := #[.string (⟨#[]⟩ : ByteArray), .string (⟨#[]⟩ : ByteArray), .string (⟨#[]⟩ : ByteArray)]) (t := 26) ?hr ?_; (case hd => rfl); (case hg => rfl); (case hr => first | (go_simp; done) | (go_simp; rfl)); intro gb120 hg w50 hbox hb; have n0_ := Aside0.mk (below_step (by repeat (first | (with_reducible first | exact HB.out | apply below_alloc | apply pw_below_drewN | apply below_drew1) | exact HB.out)) hb); have n1_ := Aside0.mk (hbox); have n2_ := Aside0.mk ((by rw [hg]; exact (below_size (by repeat (first | (with_reducible first | exact HB.out | apply below_alloc | apply pw_below_drewN | apply below_drew1) | exact HB.out))) : w.heap.size ≤ gb120)); have n3_ := Aside0.mk ((by rw [hg]; exact (below_size (by repeat (first | (with_reducible first | exact HB.out | apply below_alloc | apply pw_below_drewN | apply below_drew1) | exact HB.out))) : w.heap.size ≤ gb120)); clear HB; have HB := n0_; have BK120 := n1_; have GW120 := n2_; have GE120 := n3_; clear n0_ n1_ n2_ n3_; clear hb hbox hg; have hcz51_0 : w50.cell? ⟨gb120, 0, none⟩ = some (.string (⟨#[]⟩ : ByteArray)) := (blk_cell BK120.out 0).trans rfl; have hcz51_1 : w50.cell? ⟨gb120, 1, none⟩ = some (.string (⟨#[]⟩ : ByteArray)) := (blk_cell BK120.out 1).trans rfl; have hcz51_2 : w50.cell? ⟨gb120, 2, none⟩ = some (.string (⟨#[]⟩ : ByteArray)) := (blk_cell BK120.out 2).trans rfl; have hfz51_0 := blk_frozen BK120.out 0; have hfz51_1 := blk_frozen BK120.out 1; have hfz51_2 := blk_frozen BK120.out 2))
                  go_ret
                  exact ⟨by first | rfl | (simp [errW_none, errW_some] <;> rfl) | (simp [*, errW_none, errW_some] <;> rfl), by repeat (first | (with_reducible first | exact HB.out | apply below_alloc | apply pw_below_drewN | apply below_drew1 | refine below_set ?_ GE120.out) | exact HB.out)⟩

/-- THE ONE PURE STATEMENT of laws_FnGroupVersionBack: yours. -/
def laws_FnGroupVersionBack.Pure : Prop := ∀ (a0 : ByteArray) (a1 : ByteArray) (a2 : ByteArray), a0.size ≤ 140737488351232 → a1.size ≤ 140737488351232 → a2.size ≤ 140737488351232 → ∃ k, laws_FnGroupVersionBack.f k a0 a1 a2 = some true
theorem laws_FnGroupVersionBack.walk (P : laws_FnGroupVersionBack.Pure) (a0 : ByteArray) (a1 : ByteArray) (a2 : ByteArray) (w : World) (w0 : a0.size ≤ 140737488351232) (w1 : a1.size ≤ 140737488351232) (w2 : a2.size ≤ 140737488351232) :
    Calls Try.prog 7 #[.string a0, .string a1, .string a2] w fun e w' => e = .returned (.bool true) ∧ Below w.heap.size w w' := by
  obtain ⟨k, h⟩ := P a0 a1 a2 w0 w1 w2
  refine (laws_FnGroupVersionBack.calls k a0 a1 a2 true w h).mono ?_
  rintro e w' ⟨rfl, hd⟩
  exact ⟨rfl, hd⟩

end Go.Proofs.Ytehgokciafpnbaa.XFnGroupVersionBack
